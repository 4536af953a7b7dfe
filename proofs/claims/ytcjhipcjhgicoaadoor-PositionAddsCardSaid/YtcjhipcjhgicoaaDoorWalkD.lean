/- The contract of Offset. -/
import Derived.Test.YtcjhipcjhgicoaaDoorWalkC
namespace Go.Proofs.YtcjhipcjhgicoaaDoor
open Go.RowKit Go.Lib
namespace Po
theorem bg_get {l : List UInt8} {j : Nat} (h : j < (bg l).length) : ∃ x, (bg l)[j]? = some x ∧ 1 ≤ x ∧ x ≤ l.length ∧ l[x - 1]? = some 10 := by
  have h1 : (bg l)[j]? = some ((bg l)[j]'h) := List.getElem?_eq_getElem h
  have h2 := mem_bgN.1 (List.mem_of_getElem? h1)
  exact ⟨_, h1, h2.1, h2.2.1, h2.2.2⟩
theorem getD_of {l : List Nat} {j x : Nat} (h : l[j]? = some x) : l.getD j 0 = x := by rw [List.getD_eq_getElem?_getD, h]; rfl
theorem fin_le {l : List UInt8} {k : Nat} (hk : k ≤ (bg l).length) : fin l k ≤ l.length := by
  unfold fin
  split
  · exact Nat.le_refl _
  · obtain ⟨x, hx, h1, h2, _⟩ := bg_get (l := l) (j := k) (by omega)
    rw [getD_of hx]; omega
theorem beg_le_fin {l : List UInt8} {k : Nat} (hk : k ≤ (bg l).length) : beg l k ≤ fin l k := by
  cases k with
  | zero => exact Nat.zero_le _
  | succ j =>
    obtain ⟨x, hx, h1, h2, _⟩ := bg_get (l := l) (j := j) (by omega)
    rw [beg, getD_of hx, fin]
    split
    · exact h2
    · obtain ⟨y, hy, h3, h4, _⟩ := bg_get (l := l) (j := j + 1) (by omega)
      have := bg_lt (Nat.lt_succ_self j) hx hy
      rw [getD_of hy]; omega
end Po
theorem p2_ {A B : Prop} {a W : World} (h : A ∧ B ∧ Below a.heap.size a W) : Below a.heap.size a W := h.2.2
theorem p2_trans {A B : Prop} {a W W' : World} (h : A ∧ B ∧ Below a.heap.size a W) (hb : Below W.heap.size W W') : Below a.heap.size a W' := h.2.2.trans (hb.mono h.2.2.size)

set_option maxHeartbeats 2000000 in
set_option maxRecDepth 100000 in
theorem offset_none (s : ByteArray) (A : Option Addr) (n c : Nat) (line column : Int) (w : World) (h : line < 0 ∨ (n : Int) < line) :
    Calls Tryd.prog 16 #[.agg #[.string s, .slice A n c], .int .i64 line, .int .i64 column] w fun e w' => e = .returned (.tuple #[.int .i64 0, .int .i64 9]) ∧ Below w.heap.size w w' := by
  by_cases h0 : line < 0
  · clear h
    go_enter Tryd.func16, Tryd.ntmps16
    go_wp2
    go_ret2
    exact ⟨rfl, (Below.refl _ _).alloc (Nat.le_refl _) _⟩
  · have h1 : (n : Int) < line := by omega
    clear h
    go_enter Tryd.func16, Tryd.ntmps16
    go_wp2
    go_ret2
    exact ⟨rfl, (Below.refl _ _).alloc (Nat.le_refl _) _⟩

set_option maxHeartbeats 2000000 in
set_option maxRecDepth 100000 in
theorem offset_some (s : ByteArray) (A : Option Addr) (n c k : Nat) (column : Int) (w : World) (hr : Reads w w.heap.size A n (i64s (Po.bg s.data.toList))) (hk : k ≤ n) (hs : s.size ≤ 1073741824) (hc : -9223372036854775808 ≤ column ∧ column ≤ 9223372036854775807) :
    Calls Tryd.prog 16 #[.agg #[.string s, .slice A n c], .int .i64 (k : Int), .int .i64 column] w fun e w' => e = .returned (if column < 0 ∨ (Po.fin s.data.toList k : Int) - (Po.beg s.data.toList k : Int) < column then .tuple #[.int .i64 0, .int .i64 2] else .tuple #[.int .i64 ((Po.beg s.data.toList k : Int) + column), .int .i64 0]) ∧ Below w.heap.size w w' := by
  have hsl : s.data.toList.length = s.size := by simp
  have hbl : (Po.bg s.data.toList).length = n := by have := hr.1; simpa [i64s] using this
  have hl0 := Po.bg_len s.data.toList
  have hn9 : n ≤ 1073741824 := by omega
  have hf := Po.fin_le (l := s.data.toList) (k := k) (by omega)
  have hbf := Po.beg_le_fin (l := s.data.toList) (k := k) (by omega)
  have HBE := Lib.hid (fun W (hW : Reads W W.heap.size A n (i64s (Po.bg s.data.toList))) => begin_any s s.data.toList A n c k W hW hk hn9)
  have HEN := Lib.hid (fun W (hW : Reads W W.heap.size A n (i64s (Po.bg s.data.toList))) => end_any s A n c k W hW hk hs)
  rw [hsl] at hf
  obtain ⟨B, hB⟩ : ∃ B, Po.beg s.data.toList k = B := ⟨_, rfl⟩
  obtain ⟨E, hE⟩ : ∃ E, Po.fin s.data.toList k = E := ⟨_, rfl⟩
  rw [hB] at HBE hbf ⊢
  rw [hE] at HEN hbf hf ⊢
  have hbw : Below w.heap.size w (w.alloc (.cells #[.string s, .slice A n c] 25)) := (Below.refl _ _).alloc (Nat.le_refl _) _
  have hr2' := Lib.hid (hr.on hbw)
  have hX : (w.alloc (.cells #[.string s, .slice A n c] 25)).heap[w.heap.size]? = some (.cells #[.string s, .slice A n c] 25 (0, 0)) := heap_alloc_new w _
  have hsub : IntKind.i64.wrap ((E : Int) - (B : Int)) = (E : Int) - (B : Int) := IntWalk.i64_in _ (by omega)
  have hk0 : (0 : Int) ≤ k := by omega
  have hkn : (k : Int) ≤ n := by omega
  have HX := Lib.hid hX
  clear hB hE hsl hbl hl0 hX
  by_cases hc0 : column < 0
  · rw [if_pos (Or.inl hc0)]
    clear hsub
    go_enter Tryd.func16, Tryd.ntmps16
    go_wp2_with fail
    go_quiet (fail)
    go_wp2_with fail
    go_ret2
    exact ⟨rfl, hbw.trans (below_drewN _ _ |>.mono hbw.size)⟩
  · by_cases hce : (E : Int) - (B : Int) < column
    · rw [if_pos (Or.inr hce)]
      have hX2 := HX.out
      have hlX := lt_of_block hX2
      obtain ⟨w2, hw2⟩ : ∃ w2, w.alloc (.cells #[.string s, .slice A n c] 25) = w2 := ⟨_, rfl⟩
      rw [hw2] at hX2 hlX hr2' hbw
      have hcells : ∀ W, Below w2.heap.size w2 W → W.cell? ⟨w.heap.size, 0, none⟩ = some (.string s) ∧ W.cell? ⟨w.heap.size, 1, none⟩ = some (.slice A n c) ∧ Below w2.heap.size w2 W := by
        intro W hW
        have h1 := (hW.block w.heap.size hlX).trans hX2
        exact ⟨at_block h1 0 _ rfl, at_block h1 1 _ rfl, hW⟩
      have HC := Lib.hid hcells
      have HW2 := Lib.hid hw2
      have hce' : (decide (column < 0)) = false := by simpa using hc0
      clear hcells hX2 hw2
      go_enter Tryd.func16, Tryd.ntmps16
      go_wp2_with fail
      rw [HW2.out]
      go_region_held3 (fun W => W.cell? ⟨w.heap.size, 0, none⟩ = some (.string s) ∧ W.cell? ⟨w.heap.size, 1, none⟩ = some (.slice A n c) ∧ Below w2.heap.size w2 W)
        ((refine HC.out _ ?_; first | assumption | exact (Below.refl _ _).drew))
        (first | (go_at_call 24; refine (HBE.out _ (hr2'.out.on (p2_ (by assumption)))).mono ?_; rintro e w7 ⟨rfl, hb7⟩; have hb7' := p2_trans (by assumption) hb7) | (go_at_call 25; refine (HEN.out _ (hr2'.out.on (p2_ (by assumption)))).mono ?_; rintro e w7 ⟨rfl, hb7⟩; have hb7' := p2_trans (by assumption) hb7))
      all_goals
        go_wp2_with fail
        go_ret2
        exact ⟨rfl, hbw.trans (Below.mono (B := w2.heap.size) (by assumption) hbw.size)⟩
    · rw [if_neg (by omega)]
      have hadd : IntKind.i64.wrap ((B : Int) + column) = (B : Int) + column := IntWalk.i64_in _ (by omega)
      have hX2 := HX.out
      have hlX := lt_of_block hX2
      obtain ⟨w2, hw2⟩ : ∃ w2, w.alloc (.cells #[.string s, .slice A n c] 25) = w2 := ⟨_, rfl⟩
      rw [hw2] at hX2 hlX hr2' hbw
      have hcells : ∀ W, Below w2.heap.size w2 W → W.cell? ⟨w.heap.size, 0, none⟩ = some (.string s) ∧ W.cell? ⟨w.heap.size, 1, none⟩ = some (.slice A n c) ∧ Below w2.heap.size w2 W := by
        intro W hW
        have h1 := (hW.block w.heap.size hlX).trans hX2
        exact ⟨at_block h1 0 _ rfl, at_block h1 1 _ rfl, hW⟩
      have HC := Lib.hid hcells
      have HW2 := Lib.hid hw2
      have hce' : (decide (column < 0)) = false := by simpa using hc0
      clear hcells hX2 hw2
      go_enter Tryd.func16, Tryd.ntmps16
      go_wp2_with fail
      rw [HW2.out]
      go_region_held3 (fun W => W.cell? ⟨w.heap.size, 0, none⟩ = some (.string s) ∧ W.cell? ⟨w.heap.size, 1, none⟩ = some (.slice A n c) ∧ Below w2.heap.size w2 W)
        ((refine HC.out _ ?_; first | assumption | exact (Below.refl _ _).drew))
        (first | (go_at_call 24; refine (HBE.out _ (hr2'.out.on (p2_ (by assumption)))).mono ?_; rintro e w7 ⟨rfl, hb7⟩; have hb7' := p2_trans (by assumption) hb7) | (go_at_call 25; refine (HEN.out _ (hr2'.out.on (p2_ (by assumption)))).mono ?_; rintro e w7 ⟨rfl, hb7⟩; have hb7' := p2_trans (by assumption) hb7))
      all_goals
        have hq : Below w2.heap.size w2 w7 := by assumption
        go_wp2_with fail
        refine (HBE.out _ (hr2'.out.on hq)).mono ?_
        rintro e w8 ⟨rfl, hb8⟩
        go_wp2_with fail
        go_ret2
        exact ⟨rfl, hbw.trans ((hq.trans (hb8.mono hq.size)).mono hbw.size)⟩
end Go.Proofs.YtcjhipcjhgicoaaDoor
