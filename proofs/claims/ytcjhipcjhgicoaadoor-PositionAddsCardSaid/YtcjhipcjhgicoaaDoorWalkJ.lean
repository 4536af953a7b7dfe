/- The contract of the reference's Line. -/
import Derived.Test.YtcjhipcjhgicoaaDoorWalkI
namespace Go.Proofs.YtcjhipcjhgicoaaDoor
open Go.RowKit Go.Lib

namespace Po
theorem trim_last (l : List UInt8) (x : UInt8) : Lib.trimSuffix (l ++ [x]) [13] = if x = 13 then l else l ++ [x] := by
  unfold Lib.trimSuffix Lib.hasSuffix List.isSuffixOf
  by_cases h : x = 13
  · subst h; simp
  · have h' : ¬ (13 : UInt8) = x := fun e => h e.symm
    simp [h, h', List.isPrefixOf]
theorem mk_data (s : ByteArray) : (⟨s.data.toList.toArray⟩ : ByteArray) = s := by simp
/-- What TrimSuffix leaves of a piece. -/
theorem trim_hit {s : ByteArray} {B E : Nat} (h : B < E) (hd : s.data.toList[E - 1]? = some 13) : (⟨(Lib.trimSuffix (s.extract B E).data.toList [13]).toArray⟩ : ByteArray) = s.extract B (E - 1) := by
  have e1 : (s.extract B E).data.toList = (s.extract B (E - 1)).data.toList ++ [13] := by
    rw [Lib.extract_data, Lib.extract_data, show E - B = (E - 1 - B) + 1 by omega, List.take_add_one, List.getElem?_drop, show B + (E - 1 - B) = E - 1 by omega, hd]
    rfl
  rw [e1, trim_last, if_pos rfl, mk_data]
theorem trim_miss {s : ByteArray} {B E : Nat} {d : UInt8} (h : B < E) (hd : s.data.toList[E - 1]? = some d) (hne : ¬ d = 13) : (⟨(Lib.trimSuffix (s.extract B E).data.toList [13]).toArray⟩ : ByteArray) = s.extract B E := by
  have e1 : (s.extract B E).data.toList = (s.extract B (E - 1)).data.toList ++ [d] := by
    rw [Lib.extract_data, Lib.extract_data, show E - B = (E - 1 - B) + 1 by omega, List.take_add_one, List.getElem?_drop, show B + (E - 1 - B) = E - 1 by omega, hd]
    rfl
  have e2 : Lib.trimSuffix (s.extract B E).data.toList [13] = (s.extract B E).data.toList := by rw [e1, trim_last, if_neg hne]
  rw [e2, mk_data]
theorem trim_none {s : ByteArray} {B E : Nat} (h : B = E) : (⟨(Lib.trimSuffix (s.extract B E).data.toList [13]).toArray⟩ : ByteArray) = s.extract B E := by
  subst h
  have e1 : (s.extract B B).data.toList = [] := by rw [Lib.extract_data]; simp
  have e2 : Lib.trimSuffix (s.extract B B).data.toList [13] = (s.extract B B).data.toList := by rw [e1]; rfl
  rw [e2, mk_data]
end Po
theorem not_cr {d : UInt8} (h : ¬ d = 13) : ((d.toNat : Int) == 13) = false := by
  simp only [beq_eq_false_iff_ne, ne_eq]
  intro h'
  exact h (UInt8.toNat_inj.1 (by show d.toNat = 13; omega))

set_option maxHeartbeats 2000000 in
set_option maxRecDepth 100000 in
theorem refline_none (s : ByteArray) (line : Int) (w : World) (h : line < 0 ∨ ((Po.bg s.data.toList).length : Int) < line) (hl : line ≤ 9223372036854775807) (hs : s.size ≤ 1073741824) :
    Calls Tryd.prog 19 #[.string s, .int .i64 line] w fun e w' => e = .returned (.tuple #[.string ⟨#[]⟩, .int .i64 9]) ∧ w' = w := by
  by_cases h0 : line < 0
  · clear h
    go_enter Tryd.func19, Tryd.ntmps19
    go_wp2_with fail
    go_ret2
    exact ⟨rfl, rfl⟩
  · obtain ⟨K, rfl⟩ : ∃ K : Nat, line = (K : Int) := ⟨line.toNat, by omega⟩
    have B := Lib.hid (show ∀ W, Calls Tryd.prog 26 #[.string s, .int .i64 (K : Int)] W fun e w' => e = .returned (.int .i64 (-1)) ∧ w' = W by
      intro W; have := refbegin_any s K W (by omega) hs; rwa [Po.rbeg_neg (by omega)] at this)
    clear h
    go_enter Tryd.func19, Tryd.ntmps19
    go_wp2_with fail
    refine (B.out _).mono ?_
    rintro e w' ⟨rfl, rfl⟩
    go_wp2_with fail
    go_ret2
    exact ⟨rfl, rfl⟩

set_option maxHeartbeats 2000000 in
set_option maxRecDepth 100000 in
theorem refline_some (s : ByteArray) (k n : Nat) (w : World) (hk : k ≤ n) (hn : (Po.bg s.data.toList).length = n) (hs : s.size ≤ 1073741824) :
    Calls Tryd.prog 19 #[.string s, .int .i64 (k : Int)] w fun e w' => e = .returned (.tuple #[.string (Po.lineB s n k), .int .i64 0]) ∧ w' = w := by
  have hsl : s.data.toList.length = s.size := by simp
  have hl0 := Po.bg_len s.data.toList
  have hf := Po.fin_le (l := s.data.toList) (k := k) (by omega)
  have hbf := Po.beg_le_fin (l := s.data.toList) (k := k) (by omega)
  have hfa := Po.fin_at (l := s.data.toList) (k := k) (by omega)
  have HBE := Lib.hid (show ∀ W, Calls Tryd.prog 26 #[.string s, .int .i64 (k : Int)] W fun e w' => e = .returned (.int .i64 (Po.beg s.data.toList k : Int)) ∧ w' = W by
    intro W; have := refbegin_any s k W (by omega) hs; rwa [Po.rbeg_pos (by omega)] at this)
  have HEN := Lib.hid (fun W => refend_fin s k W (by omega) hs)
  have hL : Po.lineB s n k = if k < n then ⟨(Lib.trimSuffix (s.extract (Po.beg s.data.toList k) (Po.fin s.data.toList k)).data.toList [13]).toArray⟩ else s.extract (Po.beg s.data.toList k) (Po.fin s.data.toList k) := rfl
  rw [hL]
  rw [hsl, hn] at hfa
  rw [hsl] at hf
  obtain ⟨B, hB⟩ : ∃ B, Po.beg s.data.toList k = B := ⟨_, rfl⟩
  obtain ⟨E, hE⟩ : ∃ E, Po.fin s.data.toList k = E := ⟨_, rfl⟩
  rw [hB] at HBE HEN hbf ⊢
  rw [hE] at HEN hbf hf hfa ⊢
  have hk0 : (0 : Int) ≤ k := by omega
  have hb0 : (0 : Int) ≤ B := by omega
  have hbe : (B : Int) ≤ E := by omega
  have hes : (E : Int) ≤ s.size := by omega
  have he9 : (E : Int) ≤ 1073741824 := by omega
  clear hB hE hsl hl0 hL hn
  rcases hfa with ⟨hkn, hEs⟩ | ⟨hkn, hEs, _⟩
  · rw [if_neg (by omega)]
    have hee : ¬ (E : Int) < s.size := by omega
    obtain ⟨T, hT⟩ : ∃ T, s.extract B E = T := ⟨_, rfl⟩
    rw [hT]
    clear hkn hEs
    go_enter Tryd.func19, Tryd.ntmps19
    go_wp2_with fail
    refine (HBE.out _).mono ?_
    rintro e w' ⟨rfl, rfl⟩
    go_wp2_with fail
    refine (HBE.out _).mono ?_
    rintro e w' ⟨rfl, rfl⟩
    go_wp2_with fail
    refine (HEN.out _).mono ?_
    rintro e w' ⟨rfl, rfl⟩
    go_wp2_with fail
    go_ret2
    exact ⟨rfl, rfl⟩
  · rw [if_pos hkn]
    have hee : (E : Int) < s.size := by omega
    by_cases hBE : B < E
    · have hBE' : (B : Int) < E := by omega
      obtain ⟨e1, rfl⟩ : ∃ e1, E = e1 + 1 := ⟨E - 1, by omega⟩
      have hlt : e1 < s.size := by omega
      obtain ⟨d, hd⟩ : ∃ d : UInt8, s[e1]'hlt = d := ⟨_, rfl⟩
      have hd' := byte_at hlt hd
      have hsub : ((e1 + 1 : Nat) : Int) - 1 = (e1 : Int) := by omega
      have hi0 : (0 : Int) ≤ e1 := by omega
      have hin : (e1 : Int) < s.size := by omega
      have hbe1 : (B : Int) ≤ e1 := by omega
      by_cases h13 : d = 13
      · have h10 : ((d.toNat : Int) == 13) = true := by subst h13; rfl
        rw [Po.trim_hit hBE (by rw [Nat.add_sub_cancel, hd', h13]), Nat.add_sub_cancel]
        obtain ⟨T, hT⟩ : ∃ T, s.extract B e1 = T := ⟨_, rfl⟩
        rw [hT]
        clear h13 hd' hBE
        generalize ((e1 + 1 : Nat) : Int) = Q at *
        go_enter Tryd.func19, Tryd.ntmps19
        go_wp2_with fail
        refine (HBE.out _).mono ?_
        rintro e w' ⟨rfl, rfl⟩
        go_wp2_with fail
        refine (HBE.out _).mono ?_
        rintro e w' ⟨rfl, rfl⟩
        go_wp2_with fail
        refine (HEN.out _).mono ?_
        rintro e w' ⟨rfl, rfl⟩
        go_wp2_with fail
        go_ret2
        exact ⟨rfl, rfl⟩
      · have h10 := not_cr h13
        rw [Po.trim_miss hBE (by rw [Nat.add_sub_cancel]; exact hd') h13]
        obtain ⟨T, hT⟩ : ∃ T, s.extract B (e1 + 1) = T := ⟨_, rfl⟩
        rw [hT]
        clear h13 hd'
        generalize e1 + 1 = E' at *
        go_enter Tryd.func19, Tryd.ntmps19
        go_wp2_with fail
        refine (HBE.out _).mono ?_
        rintro e w' ⟨rfl, rfl⟩
        go_wp2_with fail
        refine (HBE.out _).mono ?_
        rintro e w' ⟨rfl, rfl⟩
        go_wp2_with fail
        refine (HEN.out _).mono ?_
        rintro e w' ⟨rfl, rfl⟩
        go_wp2_with fail
        go_ret2
        exact ⟨rfl, rfl⟩
    · rw [Po.trim_none (by omega)]
      have hBE' : ¬ (B : Int) < E := by omega
      obtain ⟨T, hT⟩ : ∃ T, s.extract B E = T := ⟨_, rfl⟩
      rw [hT]
      clear hkn hEs hBE
      go_enter Tryd.func19, Tryd.ntmps19
      go_wp2_with fail
      refine (HBE.out _).mono ?_
      rintro e w' ⟨rfl, rfl⟩
      go_wp2_with fail
      refine (HBE.out _).mono ?_
      rintro e w' ⟨rfl, rfl⟩
      go_wp2_with fail
      refine (HEN.out _).mono ?_
      rintro e w' ⟨rfl, rfl⟩
      go_wp2_with fail
      go_ret2
      exact ⟨rfl, rfl⟩
end Go.Proofs.YtcjhipcjhgicoaaDoor
