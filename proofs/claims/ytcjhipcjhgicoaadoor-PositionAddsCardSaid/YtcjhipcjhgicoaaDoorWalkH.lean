/- The contracts of the reference: Begin, End. -/
import Derived.Test.YtcjhipcjhgicoaaDoorWalkG
namespace Go.Proofs.YtcjhipcjhgicoaaDoor
open Go.RowKit Go.Lib

namespace Po
/-- The offset at which a line begins, or -1. -/
def rbeg (l : List UInt8) (K : Nat) : Int := if K ≤ (bg l).length then (beg l K : Int) else -1
theorem beg_hit {l : List UInt8} {k : Nat} (h : l[k]? = some 10) : rbeg l ((bgN l k).length + 1) = (k : Int) + 1 := by
  have hk : k < l.length := by
    rcases Nat.lt_or_ge k l.length with h' | h'
    · exact h'
    · rw [List.getElem?_eq_none h'] at h; cases h
  obtain ⟨r, h1, _⟩ := bgN_split l (k + 1) l.length (by omega)
  rw [bgN_hit h] at h1
  have h2 : (bg l)[(bgN l k).length]? = some (k + 1) := by rw [bg, h1]; simp
  have h3 := (List.getElem?_eq_some_iff.1 h2).1
  rw [rbeg, if_pos (by omega), beg, getD_of h2]
  simp
theorem rbeg_none {l : List UInt8} {K : Nat} (h : (bgN l l.length).length < K) : rbeg l K = -1 := by rw [rbeg, if_neg (by rw [bg]; omega)]
/-- Between a line's beginning and its end there is no line feed. -/
theorem no_ten {l : List UInt8} {k i : Nat} (hk : k ≤ (bg l).length) (h1 : beg l k ≤ i) (h2 : i < fin l k) : l[i]? ≠ some 10 := by
  intro h
  have hi : i < l.length := by have := fin_le hk; omega
  have hm : i + 1 ∈ bg l := mem_bgN.2 ⟨by omega, by omega, by simpa using h⟩
  obtain ⟨m, hm1⟩ := List.getElem?_of_mem hm
  have hml := (List.getElem?_eq_some_iff.1 hm1).1
  have hmk : k ≤ m := by
    cases k with
    | zero => omega
    | succ j =>
      obtain ⟨x, hx, _⟩ := bg_get (l := l) (j := j) (by omega)
      rw [beg, getD_of hx] at h1
      rcases Nat.lt_or_ge m (j + 1) with h' | h'
      · have : i + 1 ≤ x := by
          rcases Nat.lt_or_ge m j with h'' | h''
          · exact Nat.le_of_lt (bg_lt h'' hm1 hx)
          · obtain rfl : m = j := by omega
            rw [hm1] at hx
            exact Nat.le_of_eq (Option.some.inj hx)
        omega
      · exact h'
  have hkn : k ≠ (bg l).length := by omega
  obtain ⟨x, hx, _⟩ := bg_get (l := l) (j := k) (by omega)
  rw [fin, if_neg hkn, getD_of hx] at h2
  rcases Nat.lt_or_ge k m with h' | h'
  · have := bg_lt h' hx hm1; omega
  · obtain rfl : k = m := by omega
    rw [hm1] at hx
    have := Option.some.inj hx
    omega
/-- A line ends at a line feed or at the end. -/
theorem fin_at {l : List UInt8} {k : Nat} (hk : k ≤ (bg l).length) : (k = (bg l).length ∧ fin l k = l.length) ∨ (k < (bg l).length ∧ fin l k < l.length ∧ l[fin l k]? = some 10) := by
  by_cases h : k = (bg l).length
  · exact Or.inl ⟨h, by rw [fin, if_pos h]⟩
  · obtain ⟨x, hx, h1, h2, h3⟩ := bg_get (l := l) (j := k) (by omega)
    refine Or.inr ⟨by omega, ?_, ?_⟩
    · rw [fin, if_neg h, getD_of hx]; omega
    · rw [fin, if_neg h, getD_of hx]; exact h3
end Po

set_option maxHeartbeats 2000000 in
set_option maxRecDepth 100000 in
theorem refbegin_any (s : ByteArray) (K : Nat) (w : World) (hK : K ≤ 9223372036854775807) (hs : s.size ≤ 1073741824) :
    Calls Tryd.prog 26 #[.string s, .int .i64 (K : Int)] w fun e w' => e = .returned (.int .i64 (Po.rbeg s.data.toList K)) ∧ w' = w := by
  by_cases h0 : K = 0
  · subst h0
    have e : Po.rbeg s.data.toList 0 = 0 := by simp [Po.rbeg, Po.beg]
    rw [e]
    clear e
    show Calls Tryd.prog 26 #[.string s, .int .i64 0] w _
    go_enter Tryd.func26, Tryd.ntmps26
    go_wp2
    go_ret
    exact ⟨rfl, rfl⟩
  · have h0' : ((K : Int) == 0) = false := by simp; omega
    go_enter Tryd.func26, Tryd.ntmps26
    go_wp2
    go_loopg [1, 5] s.size (fun g n i wx => ∃ k q : Nat, i = .int .i64 k ∧ n = .int .i64 (q : Int) ∧ q + (Po.bgN s.data.toList k).length = K ∧ 0 < q ∧ wx = w ∧ k ≤ s.size ∧ s.size ≤ k + g)
    case atStart => exact ⟨0, K, rfl, rfl, rfl, by omega, rfl, by omega, by omega⟩
    case round =>
      obtain ⟨k, q, rfl, rfl, hq, hq0, rfl, hk, hg⟩ := hrel
      by_cases hlt : k < s.size
      · have hi0 : (0 : Int) ≤ k := by omega
        have hin : (k : Int) < s.size := by omega
        obtain ⟨g, rfl⟩ : ∃ g, gk = g + 1 := ⟨gk - 1, by omega⟩
        obtain ⟨d, hd⟩ : ∃ d : UInt8, s[k]'hlt = d := ⟨_, rfl⟩
        have hd' := byte_at hlt hd
        by_cases hten : d = 10
        · have h10 : ((d.toNat : Int) == 10) = true := by subst hten; rfl
          have h10' : s.data.toList[k]? = some 10 := by rw [hd', hten]
          have HBG := Lib.hid (Po.bgN_hit h10')
          by_cases hq1 : q = 1
          · have hr : Po.rbeg s.data.toList K = (k : Int) + 1 := by
              rw [← Po.beg_hit h10', show (Po.bgN s.data.toList k).length + 1 = K by omega]
            have HR := Lib.hid hr
            subst hq1
            clear hten hd' h10' hr hq
            go_wp2
            go_ret
            exact ⟨by rw [HR.out]; rfl, rfl⟩
          · have HQ := Lib.hid hq
            obtain ⟨q', rfl⟩ : ∃ q', q = q' + 1 := ⟨q - 1, by omega⟩
            have hq9 : (q' : Int) + 1 ≤ 9223372036854775807 := by omega
            have hsub : ((q' + 1 : Nat) : Int) - 1 = (q' : Int) := by omega
            have hz : ((q' : Int) == 0) = false := by simp; omega
            have hq0' : 0 < q' := by omega
            have hge : (1 : Int) ≤ ((q' + 1 : Nat) : Int) := by omega
            have hle : ((q' + 1 : Nat) : Int) ≤ 9223372036854775807 := by omega
            generalize ((q' + 1 : Nat) : Int) = Q at *
            clear hten hd' h10' hq hq1
            go_wp2
            go_roundg g
            case measure => omega
            case rel => exact ⟨k + 1, q', by go_num, rfl, by have := HQ.out; rw [HBG.out]; simp; omega, hq0', rfl, by omega, by omega⟩
        · have h10 := not_ten hten
          have HBG := Lib.hid (Po.bgN_miss (show s.data.toList[k]? ≠ some 10 by rw [hd']; simpa using hten))
          have HQ := Lib.hid hq
          clear hten hd' hq
          go_wp2
          go_roundg g
          case measure => omega
          case rel => exact ⟨k + 1, q, by go_num, rfl, by rw [HBG.out]; exact HQ.out, hq0, rfl, by omega, by omega⟩
      · obtain rfl : k = s.size := by omega
        have hin : ¬ (s.size : Int) < s.size := by omega
        have HR := Lib.hid (Po.rbeg_none (l := s.data.toList) (K := K) (by rw [show s.data.toList.length = s.size by simp]; omega))
        clear hq
        go_wp2
        go_ret
        exact ⟨by rw [HR.out]; rfl, rfl⟩

set_option maxHeartbeats 2000000 in
set_option maxRecDepth 100000 in
theorem refend_any (s : ByteArray) (a F : Nat) (w : World) (haF : a ≤ F) (hF : F ≤ s.size) (hs : s.size ≤ 1073741824) (hno : ∀ i, a ≤ i → i < F → s.data.toList[i]? ≠ some 10) (hat : F < s.size → s.data.toList[F]? = some 10) :
    Calls Tryd.prog 27 #[.string s, .int .i64 (a : Int)] w fun e w' => e = .returned (.int .i64 (F : Int)) ∧ w' = w := by
  have HNO := Lib.hid hno
  have HAT := Lib.hid hat
  clear hno hat
  go_enter Tryd.func27, Tryd.ntmps27
  go_wp2
  go_loopg [1] F (fun g i wx => ∃ k : Nat, i = .int .i64 k ∧ a ≤ k ∧ k ≤ F ∧ wx = w ∧ F ≤ k + g)
  case atStart => exact ⟨a, rfl, by omega, haF, rfl, by omega⟩
  case round =>
    obtain ⟨k, rfl, hak, hk, rfl, hg⟩ := hrel
    have hi0 : (0 : Int) ≤ k := by omega
    by_cases hlt : k < F
    · have hks : k < s.size := by omega
      have hin : (k : Int) < s.size := by omega
      obtain ⟨g, rfl⟩ : ∃ g, gk = g + 1 := ⟨gk - 1, by omega⟩
      obtain ⟨d, hd⟩ : ∃ d : UInt8, s[k]'hks = d := ⟨_, rfl⟩
      have hd' := byte_at hks hd
      have hten : ¬ d = 10 := by
        rintro rfl
        exact HNO.out k hak hlt hd'
      have h10 := not_ten hten
      clear hten hd'
      go_wp2
      go_roundg g
      case measure => omega
      case rel => exact ⟨k + 1, by go_num, by omega, by omega, rfl, by omega⟩
    · obtain rfl : k = F := by omega
      by_cases hks : k < s.size
      · have hin : (k : Int) < s.size := by omega
        obtain ⟨d, hd⟩ : ∃ d : UInt8, s[k]'hks = d := ⟨_, rfl⟩
        have hd' := byte_at hks hd
        have hten : d = 10 := by
          have := HAT.out hks
          rw [hd'] at this
          exact Option.some.inj this
        have h10 : ((d.toNat : Int) == 10) = true := by subst hten; rfl
        clear hten hd'
        go_wp2
        go_ret
        exact ⟨rfl, rfl⟩
      · have hin : ¬ (k : Int) < s.size := by omega
        go_wp2
        go_ret
        exact ⟨rfl, rfl⟩
end Go.Proofs.YtcjhipcjhgicoaaDoor
