/- PositionJoins: the law's walk. -/
import Derived.Test.YtcjhipcjhgicoaaDoorLaw5
namespace Go.Proofs.YtcjhipcjhgicoaaDoor
open Go.RowKit Go.Lib

namespace Po
theorem beg_next {l : List UInt8} {k : Nat} (h : k < (bg l).length) : beg l (k + 1) = fin l k + 1 := by
  obtain ⟨x, hx, h1, _⟩ := bg_get h
  rw [beg, getD_of hx, fin, if_neg (by omega), getD_of hx]
  omega
/-- A line, and where it ends: at the line feed, or at the carriage return before it. -/
theorem line_ends {s : ByteArray} {n k : Nat} (hn : (bg s.data.toList).length = n) (hk : k < n) : ∃ F, lineB s n k = s.extract (beg s.data.toList k) F ∧ beg s.data.toList k ≤ F ∧ F ≤ fin s.data.toList k ∧
    ((F + 1 = fin s.data.toList k ∧ s.data.toList[F]? = some 13) ∨ F = fin s.data.toList k) := by
  have hbf := beg_le_fin (l := s.data.toList) (k := k) (by omega)
  have hfa := fin_le (l := s.data.toList) (k := k) (by omega)
  rw [lineB, if_pos hk]
  by_cases h : beg s.data.toList k < fin s.data.toList k
  · obtain ⟨d, hd⟩ : ∃ d, s.data.toList[fin s.data.toList k - 1]? = some d := ⟨_, List.getElem?_eq_getElem (by omega)⟩
    by_cases h13 : d = 13
    · subst h13
      exact ⟨fin s.data.toList k - 1, trim_hit h hd, by omega, by omega, Or.inl ⟨by omega, hd⟩⟩
    · exact ⟨fin s.data.toList k, trim_miss h hd h13, hbf, Nat.le_refl _, Or.inr rfl⟩
  · exact ⟨fin s.data.toList k, trim_none (by omega), hbf, Nat.le_refl _, Or.inr rfl⟩
end Po

set_option maxHeartbeats 4000000 in
set_option maxRecDepth 100000 in
theorem law6 (s : ByteArray) (w : World) (_hs : s.size ≤ maxLen) : Calls Tryd.prog 6 #[.string s] w fun e w' => e = .returned (.bool true) ∧ Below w.heap.size w w' := by
  by_cases h : 500 < s.size
  · go_enter Tryd.func6, Tryd.ntmps6
    go_wp2_with fail
    refine (awake_any _).mono ?_
    rintro e w2 ⟨rfl, hb2⟩
    go_wp2_with fail
    go_ret
    exact ⟨rfl, hb2⟩
  · have OF := Lib.hid (of_any s)
    have hsl : s.data.toList.length = s.size := by simp
    have HSL := Lib.hid hsl
    clear hsl
    go_enter Tryd.func6, Tryd.ntmps6
    go_wp2_with fail
    refine (OF.out _ (by omega)).mono ?_
    rintro e w1 ⟨v, rfl, ⟨A, n, c, rfl, hr1, hn1⟩, hb1⟩
    have hbl : (Po.bg s.data.toList).length = n := by have := hr1.1; simp [i64s] at this; exact this
    have HBL := Lib.hid hbl
    clear hbl
    obtain ⟨w2, X, hw2, hX, hb2, hr2, _, _, hcells⟩ := lines_block (c := c) hb1 hr1
    have HW2 := Lib.hid hw2
    have HXX := Lib.hid hX
    have HC := Lib.hid hcells
    have HR2 := Lib.hid hr2
    have CT := Lib.hid (fun W => count_any s A n c W (by omega))
    clear hw2 hX hcells hr1 hr2
    have hd2 : Below w2.heap.size w2 w2 := Below.refl _ _
    go_wp2_with fail
    rw [HW2.out, HXX.out]
    refine (CT.out _).mono ?_
    rintro e w3 ⟨rfl, hc3⟩
    have hd3 : Below w2.heap.size w2 w3 := hd2.trans (hc3.mono hd2.size)
    go_wp2_with fail
    go_loopg [4, 18] (n + 1) (fun g a i wx => ∃ k p : Nat, i = .int .i64 k ∧ a = .int .i64 p ∧ p = (if k ≤ n then Po.beg s.data.toList k else s.size) ∧ k ≤ n + 1 ∧ n + 1 ≤ k + g ∧ Below w2.heap.size w2 wx)
    case atStart => exact ⟨0, 0, rfl, rfl, by rw [if_pos (Nat.zero_le _)]; rfl, by omega, by omega, hd3⟩
    case round =>
      obtain ⟨k, p, rfl, rfl, hp, hk, hg, hdx⟩ := hrel
      obtain ⟨px, qx⟩ := HC.out _ hdx
      by_cases hlt : k < n + 1
      · have hin : (k : Int) < (n : Int) + 1 := by omega
        obtain ⟨g, rfl⟩ : ∃ g, gk = g + 1 := ⟨gk - 1, by omega⟩
        rw [if_pos (by omega)] at hp
        have hkb : k ≤ (Po.bg s.data.toList).length := by rw [HBL.out]; omega
        have hfl := Po.fin_le hkb
        have hbf := Po.beg_le_fin hkb
        rw [HSL.out] at hfl
        have LN := Lib.hid (fun W hr => line_some s A n c k W hr (by omega) (by omega))
        have os := (fun W hr => offset_some s A n c k 0 W hr (by omega) (by omega) (by omega))
        simp only [if_neg (show ¬ ((0 : Int) < 0 ∨ (Po.fin s.data.toList k : Int) - (Po.beg s.data.toList k : Int) < 0) by omega)] at os
        simp only [Int.add_zero, ← hp] at os
        have OS := Lib.hid os
        clear os
        rw [← hp] at hbf
        have hk0 : (0 : Int) ≤ k := by omega
        by_cases hkn : k < n
        · have hnx := Po.beg_next (l := s.data.toList) (k := k) (by rw [HBL.out]; exact hkn)
          obtain ⟨F, hF, hF1, hF2, hF3⟩ := Po.line_ends HBL.out hkn
          have hten : s.data.toList[Po.fin s.data.toList k]? = some 10 := by
            rcases Po.fin_at hkb with ⟨h', _⟩ | ⟨_, _, h'⟩
            · rw [HBL.out] at h'; omega
            · exact h'
          have hEs : Po.fin s.data.toList k < s.size := by
            rcases Po.fin_at hkb with ⟨h', _⟩ | ⟨_, h', _⟩
            · rw [HBL.out] at h'; omega
            · rw [HSL.out] at h'; exact h'
          rw [hF] at LN
          rw [← hp] at hF1 LN
          obtain ⟨E, hE⟩ : ∃ E, Po.fin s.data.toList k = E := ⟨_, rfl⟩
          rw [hE] at hfl hbf hnx hF2 hF3 hten hEs
          obtain ⟨T, hT⟩ : ∃ T, s.extract p F = T := ⟨_, rfl⟩
          have hTs : T.size = F - p := by rw [← hT, ByteArray.size_extract]; omega
          rw [hT] at LN
          have hE1 : E < s.size := hEs
          obtain ⟨d, hd⟩ : ∃ d : UInt8, s[E]'hE1 = d := ⟨_, rfl⟩
          have hd' := byte_at hE1 hd
          have hdten : d = 10 := by rw [hd'] at hten; exact Option.some.inj hten
          have h10 : ((d.toNat : Int) == 10) = true := by subst hdten; rfl
          have h10n : ((d.toNat : Int) != 10) = false := by subst hdten; rfl
          have hnse : ¬ s.size ≤ E := by omega
          have h1013 : ((d.toNat : Int) == 13) = false := by subst hdten; rfl
          have hsum : (p : Int) + (T.size : Int) = (F : Int) := by omega
          have hle1 : (T.size : Int) ≤ (s.size : Int) - (p : Int) := by omega
          have hp0 : (0 : Int) ≤ p := by omega
          have hpF : (p : Int) ≤ F := by omega
          have hFs : (F : Int) ≤ s.size := by omega
          have hEs' : (E : Int) < s.size := by omega
          have hkn' : (k : Int) + 1 < (n : Int) + 1 := by omega
          have hkni : (k : Int) < (n : Int) := by omega
          have hcase : (F + 1 = E ∧ s.data.toList[F]? = some 13) ∨ F = E := hF3
          have HNX := Lib.hid hnx
          have HP := Lib.hid hp
          clear hF3 hten hd' hdten hnx hF hE hp hTs
          rcases hcase with ⟨hFE, h13⟩ | hFE
          · have hFlt : F < s.size := by omega
            have hFlt' : (F : Int) < s.size := by omega
            obtain ⟨x, hx⟩ : ∃ x : UInt8, s[F]'hFlt = x := ⟨_, rfl⟩
            have hx' := byte_at hFlt hx
            have hx13 : x = 13 := by rw [hx'] at h13; exact Option.some.inj h13
            have hxt : ((x.toNat : Int) == 13) = true := by subst hx13; rfl
            have hF1E : (F : Int) + 1 = (E : Int) := by omega
            clear hx' hx13 h13
            go_wp2_with fail
            refine (LN.out _ (HR2.out.on hdx)).mono ?_
            rintro e w4 ⟨rfl, hc4⟩
            have hd4 : Below w2.heap.size w2 w4 := hdx.trans (hc4.mono hdx.size)
            obtain ⟨p4, q4⟩ := HC.out _ hd4
            go_wp2_with fail
            refine (OS.out _ (HR2.out.on hd4)).mono ?_
            rintro e w5 ⟨rfl, hc5⟩
            have hd5 : Below w2.heap.size w2 w5 := hd4.trans (hc5.mono hd4.size)
            obtain ⟨p5, q5⟩ := HC.out _ hd5
            go_wp2_with fail
            refine (CT.out _).mono ?_
            rintro e w6 ⟨rfl, hc6⟩
            have hd6 : Below w2.heap.size w2 w6 := hd5.trans (hc6.mono hd5.size)
            go_wp2_with fail
            go_roundg g
            case measure => omega
            case rel => exact ⟨k + 1, E + 1, by go_num, by go_num, by rw [if_pos (by omega)]; exact HNX.out.symm, by omega, by omega, hd6⟩
          · subst hFE
            go_wp2_with fail
            refine (LN.out _ (HR2.out.on hdx)).mono ?_
            rintro e w4 ⟨rfl, hc4⟩
            have hd4 : Below w2.heap.size w2 w4 := hdx.trans (hc4.mono hdx.size)
            obtain ⟨p4, q4⟩ := HC.out _ hd4
            go_wp2_with fail
            refine (OS.out _ (HR2.out.on hd4)).mono ?_
            rintro e w5 ⟨rfl, hc5⟩
            have hd5 : Below w2.heap.size w2 w5 := hd4.trans (hc5.mono hd4.size)
            obtain ⟨p5, q5⟩ := HC.out _ hd5
            go_wp2_with fail
            refine (CT.out _).mono ?_
            rintro e w6 ⟨rfl, hc6⟩
            have hd6 : Below w2.heap.size w2 w6 := hd5.trans (hc6.mono hd5.size)
            go_wp2_with fail
            go_roundg g
            case measure => omega
            case rel => exact ⟨k + 1, F + 1, by go_num, by go_num, by rw [if_pos (by omega)]; exact HNX.out.symm, by omega, by omega, hd6⟩
        · have hkn2 : k = n := by omega
          have hE : Po.fin s.data.toList k = s.size := by rw [Po.fin, if_pos (by rw [HBL.out]; exact hkn2), HSL.out]
          have hL : Po.lineB s n k = s.extract p s.size := by rw [Po.lineB, if_neg hkn, hE, ← hp]
          rw [hL] at LN
          obtain ⟨T, hT⟩ : ∃ T, s.extract p s.size = T := ⟨_, rfl⟩
          have hTs : T.size = s.size - p := by rw [← hT, ByteArray.size_extract]; omega
          rw [hT] at LN
          have hsum : (p : Int) + (T.size : Int) = (s.size : Int) := by rw [hE] at hbf; omega
          have hle1 : (T.size : Int) ≤ (s.size : Int) - (p : Int) := by omega
          have hp0 : (0 : Int) ≤ p := by omega
          have hpF : (p : Int) ≤ s.size := by omega
          have hkn' : ¬ (k : Int) + 1 < (n : Int) + 1 := by omega
          have hkni : ¬ (k : Int) < (n : Int) := by omega
          clear hE hL hp hTs hkn2
          go_wp2_with fail
          refine (LN.out _ (HR2.out.on hdx)).mono ?_
          rintro e w4 ⟨rfl, hc4⟩
          have hd4 : Below w2.heap.size w2 w4 := hdx.trans (hc4.mono hdx.size)
          obtain ⟨p4, q4⟩ := HC.out _ hd4
          go_wp2_with fail
          refine (OS.out _ (HR2.out.on hd4)).mono ?_
          rintro e w5 ⟨rfl, hc5⟩
          have hd5 : Below w2.heap.size w2 w5 := hd4.trans (hc5.mono hd4.size)
          obtain ⟨p5, q5⟩ := HC.out _ hd5
          go_wp2_with fail
          refine (CT.out _).mono ?_
          rintro e w6 ⟨rfl, hc6⟩
          have hd6 : Below w2.heap.size w2 w6 := hd5.trans (hc6.mono hd5.size)
          go_wp2_with fail
          go_roundg g
          case measure => omega
          case rel => exact ⟨k + 1, s.size, by go_num, by go_num, by rw [if_neg (by omega)], by omega, by omega, hd6⟩
      · have hkn2 : k = n + 1 := by omega
        rw [if_neg (by omega)] at hp
        subst hp
        have hin : ¬ (k : Int) < (n : Int) + 1 := by omega
        go_wp2_with fail
        refine (awake_any _).mono ?_
        rintro e w4 ⟨rfl, hc4⟩
        have hd4 : Below w2.heap.size w2 w4 := hdx.trans (hc4.mono hdx.size)
        go_wp2_with fail
        go_ret
        exact ⟨rfl, hb2.trans (hd4.mono hb2.size)⟩
end Go.Proofs.YtcjhipcjhgicoaaDoor
