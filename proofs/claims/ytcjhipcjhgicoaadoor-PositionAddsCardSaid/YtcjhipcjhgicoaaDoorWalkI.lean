/- The contracts of the reference: Offset, Line. -/
import Derived.Test.YtcjhipcjhgicoaaDoorWalkH
import Derived.Test.YtcjhipcjhgicoaaDoorWalkE
namespace Go.Proofs.YtcjhipcjhgicoaaDoor
open Go.RowKit Go.Lib

theorem Po.rbeg_neg {l : List UInt8} {K : Nat} (h : (Po.bg l).length < K) : Po.rbeg l K = -1 := by rw [Po.rbeg, if_neg (by omega)]
theorem Po.rbeg_pos {l : List UInt8} {K : Nat} (h : K ≤ (Po.bg l).length) : Po.rbeg l K = (Po.beg l K : Int) := by rw [Po.rbeg, if_pos h]
theorem refend_fin (s : ByteArray) (k : Nat) (w : World) (hk : k ≤ (Po.bg s.data.toList).length) (hs : s.size ≤ 1073741824) :
    Calls Tryd.prog 27 #[.string s, .int .i64 (Po.beg s.data.toList k : Int)] w fun e w' => e = .returned (.int .i64 (Po.fin s.data.toList k : Int)) ∧ w' = w := by
  have hsl : s.data.toList.length = s.size := by simp
  have hf := Po.fin_le hk
  refine refend_any s _ _ w (Po.beg_le_fin hk) (by omega) hs (fun i h1 h2 => Po.no_ten hk h1 h2) (fun h => ?_)
  rcases Po.fin_at hk with ⟨_, h'⟩ | ⟨_, _, h'⟩
  · omega
  · exact h'

set_option maxHeartbeats 2000000 in
set_option maxRecDepth 100000 in
theorem refoffset_none (s : ByteArray) (line column : Int) (w : World) (h : line < 0 ∨ ((Po.bg s.data.toList).length : Int) < line) (hl : line ≤ 9223372036854775807) (hs : s.size ≤ 1073741824) :
    Calls Tryd.prog 17 #[.string s, .int .i64 line, .int .i64 column] w fun e w' => e = .returned (.tuple #[.int .i64 0, .int .i64 9]) ∧ w' = w := by
  by_cases h0 : line < 0
  · clear h
    go_enter Tryd.func17, Tryd.ntmps17
    go_wp2_with fail
    go_ret2
    exact ⟨rfl, rfl⟩
  · obtain ⟨K, rfl⟩ : ∃ K : Nat, line = (K : Int) := ⟨line.toNat, by omega⟩
    have B := Lib.hid (show ∀ W, Calls Tryd.prog 26 #[.string s, .int .i64 (K : Int)] W fun e w' => e = .returned (.int .i64 (-1)) ∧ w' = W by
      intro W; have := refbegin_any s K W (by omega) hs; rwa [Po.rbeg_neg (by omega)] at this)
    clear h
    go_enter Tryd.func17, Tryd.ntmps17
    go_wp2_with fail
    refine (B.out _).mono ?_
    rintro e w' ⟨rfl, rfl⟩
    go_wp2_with fail
    go_ret2
    exact ⟨rfl, rfl⟩

set_option maxHeartbeats 2000000 in
set_option maxRecDepth 100000 in
theorem refoffset_some (s : ByteArray) (k : Nat) (column : Int) (w : World) (hk : k ≤ (Po.bg s.data.toList).length) (hs : s.size ≤ 1073741824) (hc : -9223372036854775808 ≤ column ∧ column ≤ 9223372036854775807) :
    Calls Tryd.prog 17 #[.string s, .int .i64 (k : Int), .int .i64 column] w fun e w' => e = .returned (if column < 0 ∨ (Po.fin s.data.toList k : Int) - (Po.beg s.data.toList k : Int) < column then .tuple #[.int .i64 0, .int .i64 2] else .tuple #[.int .i64 ((Po.beg s.data.toList k : Int) + column), .int .i64 0]) ∧ w' = w := by
  have hsl : s.data.toList.length = s.size := by simp
  have hl0 := Po.bg_len s.data.toList
  have hf := Po.fin_le hk
  have hbf := Po.beg_le_fin hk
  have HBE := Lib.hid (show ∀ W, Calls Tryd.prog 26 #[.string s, .int .i64 (k : Int)] W fun e w' => e = .returned (.int .i64 (Po.beg s.data.toList k : Int)) ∧ w' = W by
    intro W; have := refbegin_any s k W (by omega) hs; rwa [Po.rbeg_pos hk] at this)
  have HEN := Lib.hid (fun W => refend_fin s k W hk hs)
  rw [hsl] at hf
  obtain ⟨B, hB⟩ : ∃ B, Po.beg s.data.toList k = B := ⟨_, rfl⟩
  obtain ⟨E, hE⟩ : ∃ E, Po.fin s.data.toList k = E := ⟨_, rfl⟩
  rw [hB] at HBE HEN hbf ⊢
  rw [hE] at HEN hbf hf ⊢
  have hk0 : (0 : Int) ≤ k := by omega
  have hb0 : (0 : Int) ≤ B := by omega
  have hbe : (B : Int) ≤ E := by omega
  have hes : (E : Int) ≤ 1073741824 := by omega
  clear hB hE hsl hl0 hk
  by_cases hc0 : column < 0
  · rw [if_pos (Or.inl hc0)]
    go_enter Tryd.func17, Tryd.ntmps17
    go_wp2_with fail
    refine (HBE.out _).mono ?_
    rintro e w' ⟨rfl, rfl⟩
    go_wp2_with fail
    refine (HBE.out _).mono ?_
    rintro e w' ⟨rfl, rfl⟩
    go_wp2_with fail
    go_ret2
    exact ⟨rfl, rfl⟩
  · by_cases hce : (E : Int) - (B : Int) < column
    · rw [if_pos (Or.inr hce)]
      go_enter Tryd.func17, Tryd.ntmps17
      go_wp2_with fail
      refine (HBE.out _).mono ?_
      rintro e w' ⟨rfl, rfl⟩
      go_wp2_with fail
      refine (HBE.out _).mono ?_
      rintro e w' ⟨rfl, rfl⟩
      go_wp2_with fail
      refine (HEN.out _).mono ?_
      rintro e w' ⟨rfl, rfl⟩
      go_wp2_with fail
      go_ret2
      exact ⟨rfl, rfl⟩
    · rw [if_neg (by omega)]
      go_enter Tryd.func17, Tryd.ntmps17
      go_wp2_with fail
      refine (HBE.out _).mono ?_
      rintro e w' ⟨rfl, rfl⟩
      go_wp2_with fail
      refine (HBE.out _).mono ?_
      rintro e w' ⟨rfl, rfl⟩
      go_wp2_with fail
      refine (HEN.out _).mono ?_
      rintro e w' ⟨rfl, rfl⟩
      go_wp2_with fail
      go_ret2
      exact ⟨rfl, rfl⟩
end Go.Proofs.YtcjhipcjhgicoaaDoor
