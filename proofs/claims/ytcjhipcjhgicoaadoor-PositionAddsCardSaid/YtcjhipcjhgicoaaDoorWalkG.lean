/- The contracts of the reference: Count, At, Begin, End. -/
import Derived.Test.YtcjhipcjhgicoaaDoorWalkD
namespace Go.Proofs.YtcjhipcjhgicoaaDoor
open Go.RowKit Go.Lib

namespace Po
/-- The offset at which the line of an offset begins. -/
def last (l : List UInt8) : Nat → Nat
  | 0 => 0
  | n + 1 => if l[n]? = some 10 then n + 1 else last l n
theorem last_le (l : List UInt8) (n : Nat) : last l n ≤ n := by
  induction n with
  | zero => simp [last]
  | succ n ih => simp only [last]; split <;> omega
theorem last_hit {l : List UInt8} {n : Nat} (h : l[n]? = some 10) : last l (n + 1) = n + 1 := by simp [last, h]
theorem last_miss {l : List UInt8} {n : Nat} (h : l[n]? ≠ some 10) : last l (n + 1) = last l n := by simp [last, h]
theorem last_eq (l : List UInt8) (n : Nat) : last l n = match (bgN l n).length with | 0 => 0 | k + 1 => (bgN l n).getD k 0 := by
  induction n with
  | zero => simp [last, bgN]
  | succ n ih =>
    by_cases h : l[n]? = some 10
    · rw [last_hit h, bgN_hit h, List.length_append]
      simp
    · rw [last_miss h, bgN_miss h, ih]
theorem beg_cnt {l : List UInt8} {o : Nat} (ho : o ≤ l.length) : beg l (cnt l o) = last l o := by
  obtain ⟨r, h1, _⟩ := bgN_split l o l.length ho
  rw [last_eq, cnt]
  cases hk : (bgN l o).length with
  | zero => rfl
  | succ k =>
    simp only [beg]
    rw [bg, h1, List.getD_eq_getElem?_getD, List.getElem?_append_left (by omega), ← List.getD_eq_getElem?_getD]
end Po
theorem byte_at {s : ByteArray} {k : Nat} (h : k < s.size) {d : UInt8} (hd : s[k]'h = d) : s.data.toList[k]? = some d := by
  rw [← hd]
  simp [h]
  rfl
theorem not_ten {d : UInt8} (h : ¬ d = 10) : ((d.toNat : Int) == 10) = false := by
  simp only [beq_eq_false_iff_ne, ne_eq]
  intro h'
  exact h (UInt8.toNat_inj.1 (by show d.toNat = 10; omega))

set_option maxHeartbeats 2000000 in
set_option maxRecDepth 100000 in
theorem refcount_any (s : ByteArray) (w : World) (hs : s.size ≤ 1073741824) : Calls Tryd.prog 15 #[.string s] w fun e w' => e = .returned (.int .i64 (((Po.bg s.data.toList).length : Int) + 1)) ∧ w' = w := by
  go_enter Tryd.func15, Tryd.ntmps15
  go_wp2
  go_loopg [3, 4] s.size (fun g n i wx => ∃ k : Nat, i = .int .i64 k ∧ n = .int .i64 (((Po.bgN s.data.toList k).length : Int) + 1) ∧ wx = w ∧ k ≤ s.size ∧ s.size ≤ k + g)
  case atStart => exact ⟨0, rfl, rfl, rfl, by omega, by omega⟩
  case round =>
    obtain ⟨k, rfl, rfl, rfl, hk, hg⟩ := hrel
    have hlen := Po.bgN_len s.data.toList k
    by_cases hlt : k < s.size
    · have hi0 : (0 : Int) ≤ k := by omega
      have hin : (k : Int) < s.size := by omega
      obtain ⟨g, rfl⟩ : ∃ g, gk = g + 1 := ⟨gk - 1, by omega⟩
      obtain ⟨d, hd⟩ : ∃ d : UInt8, s[k]'hlt = d := ⟨_, rfl⟩
      have hd' := byte_at hlt hd
      by_cases hten : d = 10
      · have h10 : ((d.toNat : Int) == 10) = true := by subst hten; rfl
        have HBG := Lib.hid (Po.bgN_hit (show s.data.toList[k]? = some 10 by rw [hd', hten]))
        clear hten hd'
        go_wp2
        go_roundg g
        case measure => omega
        case rel => exact ⟨k + 1, by go_num, by rw [HBG.out]; simp, rfl, by omega, by omega⟩
      · have h10 := not_ten hten
        have HBG := Lib.hid (Po.bgN_miss (show s.data.toList[k]? ≠ some 10 by rw [hd']; simpa using hten))
        clear hten hd'
        go_wp2
        go_roundg g
        case measure => omega
        case rel => exact ⟨k + 1, by go_num, by rw [HBG.out], rfl, by omega, by omega⟩
    · obtain rfl : k = s.size := by omega
      have hin : ¬ (s.size : Int) < s.size := by omega
      have e : Po.bg s.data.toList = Po.bgN s.data.toList s.size := by rw [Po.bg]; congr 1
      have HE := Lib.hid e
      clear e
      go_wp2
      go_ret
      exact ⟨by rw [HE.out]; rfl, rfl⟩

set_option maxHeartbeats 2000000 in
set_option maxRecDepth 100000 in
theorem refat_any (s : ByteArray) (o : Nat) (w : World) (ho : o ≤ s.size) (hs : s.size ≤ 1073741824) :
    Calls Tryd.prog 13 #[.string s, .int .i64 (o : Int)] w fun e w' => e = .returned (.tuple #[.int .i64 (Po.cnt s.data.toList o : Int), .int .i64 ((o : Int) - (Po.beg s.data.toList (Po.cnt s.data.toList o) : Int)), .int .i64 0]) ∧ w' = w := by
  have hbc : Po.beg s.data.toList (Po.cnt s.data.toList o) = Po.last s.data.toList o := Po.beg_cnt (by simpa using ho)
  rw [hbc]
  clear hbc
  go_enter Tryd.func13, Tryd.ntmps13
  go_wp2
  go_loopg [7, 8, 9] o (fun g n c i wx => ∃ k q : Nat, i = .int .i64 k ∧ n = .int .i64 (Po.cnt s.data.toList k : Int) ∧ c = .int .i64 (q : Int) ∧ q + Po.last s.data.toList k = k ∧ wx = w ∧ k ≤ o ∧ o ≤ k + g)
  case atStart => exact ⟨0, 0, rfl, rfl, rfl, rfl, rfl, by omega, by omega⟩
  case round =>
    obtain ⟨k, q, rfl, rfl, rfl, hq, rfl, hk, hg⟩ := hrel
    have hlen : Po.cnt s.data.toList k ≤ k := Po.bgN_len s.data.toList k
    by_cases hlt : k < o
    · have hi0 : (0 : Int) ≤ k := by omega
      have hin : (k : Int) < o := by omega
      have hks : k < s.size := by omega
      have hks' : (k : Int) < s.size := by omega
      obtain ⟨g, rfl⟩ : ∃ g, gk = g + 1 := ⟨gk - 1, by omega⟩
      obtain ⟨d, hd⟩ : ∃ d : UInt8, s[k]'hks = d := ⟨_, rfl⟩
      have hd' := byte_at hks hd
      by_cases hten : d = 10
      · have h10 : ((d.toNat : Int) == 10) = true := by subst hten; rfl
        have HBG := Lib.hid (Po.bgN_hit (show s.data.toList[k]? = some 10 by rw [hd', hten]))
        have HLA := Lib.hid (Po.last_hit (show s.data.toList[k]? = some 10 by rw [hd', hten]))
        have HQ := Lib.hid hq
        have hq9 : q ≤ k := by omega
        clear hten hd' hq
        go_wp2
        go_roundg g
        case measure => omega
        case rel => exact ⟨k + 1, 0, by go_num, by show _ = Value.int .i64 ((Po.bgN s.data.toList (k + 1)).length : Int); rw [HBG.out]; simp [Po.cnt], rfl, by rw [HLA.out]; omega, rfl, by omega, by omega⟩
      · have h10 := not_ten hten
        have HBG := Lib.hid (Po.bgN_miss (show s.data.toList[k]? ≠ some 10 by rw [hd']; simpa using hten))
        have HLA := Lib.hid (Po.last_miss (show s.data.toList[k]? ≠ some 10 by rw [hd']; simpa using hten))
        have HQ := Lib.hid hq
        have hq9 : q ≤ k := by omega
        clear hten hd' hq
        go_wp2
        go_roundg g
        case measure => omega
        case rel => exact ⟨k + 1, q + 1, by go_num, by show _ = Value.int .i64 ((Po.bgN s.data.toList (k + 1)).length : Int); rw [HBG.out]; rfl, by go_num, by have := HQ.out; rw [HLA.out]; omega, rfl, by omega, by omega⟩
    · obtain rfl : k = o := by omega
      have hin : ¬ (k : Int) < k := by omega
      have hq9 : (k : Int) - (Po.last s.data.toList k : Int) = (q : Int) := by omega
      have HQ9 := Lib.hid hq9
      clear hq9 hq
      go_wp2
      refine bodyPost_ret (v := .tuple #[.int .i64 (Po.cnt s.data.toList k : Int), .int .i64 (q : Int), .int .i64 0]) (by simp [results, Tryd.results13, go_sem]) rfl ?_
      exact ⟨by rw [HQ9.out], rfl⟩
theorem refat_bad (s : ByteArray) (o : Int) (w : World) (ho : o < 0 ∨ (s.size : Int) < o) :
    Calls Tryd.prog 13 #[.string s, .int .i64 o] w fun e w' => e = .returned (.tuple #[.int .i64 0, .int .i64 0, .int .i64 2]) ∧ w' = w := by
  by_cases h0 : o < 0
  · clear ho
    go_enter Tryd.func13, Tryd.ntmps13
    go_wp2
    refine bodyPost_ret (v := .tuple #[.int .i64 0, .int .i64 0, .int .i64 2]) (by simp [results, Tryd.results13, go_sem]) rfl ?_
    exact ⟨rfl, rfl⟩
  · have h1 : (s.size : Int) < o := by omega
    clear ho
    go_enter Tryd.func13, Tryd.ntmps13
    go_wp2
    refine bodyPost_ret (v := .tuple #[.int .i64 0, .int .i64 0, .int .i64 2]) (by simp [results, Tryd.results13, go_sem]) rfl ?_
    exact ⟨rfl, rfl⟩
end Go.Proofs.YtcjhipcjhgicoaaDoor
