/- PositionBack: the law's walk. -/
import Derived.Test.YtcjhipcjhgicoaaDoorLaw4
namespace Go.Proofs.YtcjhipcjhgicoaaDoor
open Go.RowKit Go.Lib

theorem Po.le_fin {l : List UInt8} {o : Nat} (ho : o ≤ l.length) : o ≤ Po.fin l (Po.cnt l o) := by
  have hc := Po.cnt_le l o ho
  by_cases h : Po.cnt l o = (Po.bg l).length
  · rw [Po.fin, if_pos h]; exact ho
  · obtain ⟨x, hx, _⟩ := Po.bg_get (l := l) (j := Po.cnt l o) (by omega)
    have h2 := Po.bg_le ho hx
    rw [Po.fin, if_neg h, Po.getD_of hx]
    have : ¬ x ≤ o := fun h' => by have := h2.1 h'; omega
    omega
theorem Po.beg_cnt_le {l : List UInt8} {o : Nat} (ho : o ≤ l.length) : Po.beg l (Po.cnt l o) ≤ o := by rw [Po.beg_cnt ho]; exact Po.last_le l o

set_option maxHeartbeats 4000000 in
set_option maxRecDepth 100000 in
theorem law5 (s : ByteArray) (w : World) (_hs : s.size ≤ maxLen) : Calls Tryd.prog 5 #[.string s] w fun e w' => e = .returned (.bool true) ∧ Below w.heap.size w w' := by
  by_cases h : 500 < s.size
  · go_enter Tryd.func5, Tryd.ntmps5
    go_wp2_with fail
    refine (awake_any _).mono ?_
    rintro e w2 ⟨rfl, hb2⟩
    go_wp2_with fail
    go_ret
    exact ⟨rfl, hb2⟩
  · have OF := Lib.hid (of_any s)
    have hsl : s.data.toList.length = s.size := by simp
    have HSL := Lib.hid hsl
    clear hsl
    go_enter Tryd.func5, Tryd.ntmps5
    go_wp2_with fail
    refine (OF.out _ (by omega)).mono ?_
    rintro e w1 ⟨v, rfl, ⟨A, n, c, rfl, hr1, hn1⟩, hb1⟩
    have hbl : n = (Po.bg s.data.toList).length := by have := hr1.1; simp [i64s] at this; exact this.symm
    have HBL := Lib.hid hbl
    clear hbl
    obtain ⟨w2, X, hw2, hX, hb2, hr2, _, _, hcells⟩ := lines_block (c := c) hb1 hr1
    have HW2 := Lib.hid hw2
    have HXX := Lib.hid hX
    have HC := Lib.hid hcells
    have HR2 := Lib.hid hr2
    clear hw2 hX hcells hr1 hr2
    have hd2 : Below w2.heap.size w2 w2 := Below.refl _ _
    go_wp2_with fail
    rw [HW2.out, HXX.out]
    go_loopg [22] (s.size + 1) (fun g i wx => ∃ k : Nat, i = .int .i64 k ∧ k ≤ s.size + 1 ∧ s.size + 1 ≤ k + g ∧ Below w2.heap.size w2 wx)
    case atStart => exact ⟨0, rfl, by omega, by omega, hd2⟩
    case round =>
      obtain ⟨k, rfl, hk, hg, hdx⟩ := hrel
      obtain ⟨px, qx⟩ := HC.out _ hdx
      by_cases hlt : k < s.size + 1
      · have hin : (k : Int) < (s.size : Int) + 1 := by omega
        obtain ⟨g, rfl⟩ : ∃ g, gk = g + 1 := ⟨gk - 1, by omega⟩
        have hkl : k ≤ s.data.toList.length := by rw [HSL.out]; omega
        have h1 := Po.le_fin hkl
        have h2 := Po.beg_cnt_le hkl
        have h3 := Po.cnt_le s.data.toList k hkl
        rw [← HBL.out] at h3
        have AT := Lib.hid (fun W hr => at_any s A n c k W hr (by omega) (by omega) hn1)
        have OS := Lib.hid (fun W hr => offset_some s A n c (Po.cnt s.data.toList k) ((k : Int) - (Po.beg s.data.toList (Po.cnt s.data.toList k) : Int)) W hr h3 (by omega) (by omega))
        have os := OS.out
        simp only [if_neg (show ¬ ((k : Int) - (Po.beg s.data.toList (Po.cnt s.data.toList k) : Int) < 0 ∨ (Po.fin s.data.toList (Po.cnt s.data.toList k) : Int) - (Po.beg s.data.toList (Po.cnt s.data.toList k) : Int) < (k : Int) - (Po.beg s.data.toList (Po.cnt s.data.toList k) : Int)) by omega)] at os
        rw [show (Po.beg s.data.toList (Po.cnt s.data.toList k) : Int) + ((k : Int) - (Po.beg s.data.toList (Po.cnt s.data.toList k) : Int)) = (k : Int) by omega] at os
        have OS2 := Lib.hid os
        obtain ⟨J, hJ⟩ : ∃ J, Po.cnt s.data.toList k = J := ⟨_, rfl⟩
        obtain ⟨C, hC⟩ : ∃ C : Int, (k : Int) - (Po.beg s.data.toList (Po.cnt s.data.toList k) : Int) = C := ⟨_, rfl⟩
        rw [hC] at AT OS2
        rw [hJ] at AT OS2 h3
        have hJ0 : (0 : Int) ≤ J := by omega
        have hJn : (J : Int) ≤ n := by omega
        have CT := Lib.hid (fun W => count_any s A n c W (by omega))
        clear h1 h2 OS os hkl hJ hC
        go_wp2_with fail
        refine (AT.out _ (HR2.out.on hdx)).mono ?_
        rintro e w3 ⟨rfl, hc3⟩
        have hd3 : Below w2.heap.size w2 w3 := hdx.trans (hc3.mono hdx.size)
        obtain ⟨p3, q3⟩ := HC.out _ hd3
        go_wp2_with fail
        refine (OS2.out _ (HR2.out.on hd3)).mono ?_
        rintro e w4 ⟨rfl, hc4⟩
        have hd4 : Below w2.heap.size w2 w4 := hd3.trans (hc4.mono hd3.size)
        obtain ⟨p4, q4⟩ := HC.out _ hd4
        go_wp2_with fail
        refine (CT.out _).mono ?_
        rintro e w5 ⟨rfl, hc5⟩
        have hd5 : Below w2.heap.size w2 w5 := hd4.trans (hc5.mono hd4.size)
        go_wp2_with fail
        go_roundg g
        case measure => omega
        case rel => exact ⟨k + 1, by go_num, by omega, by omega, hd5⟩
      · obtain rfl : k = s.size + 1 := by omega
        have hin : ¬ ((s.size + 1 : Nat) : Int) < (s.size : Int) + 1 := by omega
        have AB := Lib.hid (fun W => at_bad s A n c ((s.size : Int) + 1) W (by omega))
        go_wp2_with fail
        refine (AB.out _).mono ?_
        rintro e w3 ⟨rfl, hc3⟩
        have hd3 : Below w2.heap.size w2 w3 := hdx.trans (hc3.mono hdx.size)
        go_wp2_with fail
        refine (awake_any _).mono ?_
        rintro e w4 ⟨rfl, hc4⟩
        have hd4 : Below w2.heap.size w2 w4 := hd3.trans (hc4.mono hd3.size)
        go_wp2_with fail
        go_ret
        exact ⟨rfl, hb2.trans (hd4.mono hb2.size)⟩
end Go.Proofs.YtcjhipcjhgicoaaDoor
