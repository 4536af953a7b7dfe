/- The contracts of sort.Search at At's test, and of At. -/
import Derived.Test.YtcjhipcjhgicoaaDoorWalkB
import Derived.Deep.QuietTactic
import Derived.BigQuiet
import Derived.Deep.RegionHeld3
namespace Go.Proofs.YtcjhipcjhgicoaaDoor
open Go.RowKit Go.Lib

namespace Po
theorem bgN_split (l : List UInt8) (o n : Nat) (h : o ≤ n) : ∃ r, bgN l n = bgN l o ++ r ∧ ∀ b ∈ r, o < b := by
  induction n with
  | zero => obtain rfl : o = 0 := by omega
            exact ⟨[], by simp, by simp⟩
  | succ n ih =>
    by_cases ho : o = n + 1
    · subst ho; exact ⟨[], by simp, by simp⟩
    · obtain ⟨r, h1, h2⟩ := ih (by omega)
      refine ⟨r ++ (if l[n]? = some 10 then [n + 1] else []), by simp [bgN, h1], fun b hb => ?_⟩
      rw [List.mem_append] at hb
      rcases hb with hb | hb
      · exact h2 b hb
      · split at hb
        · simp at hb; omega
        · simp at hb
/-- How many lines begin up to an offset. -/
def cnt (l : List UInt8) (o : Nat) : Nat := (bgN l o).length
theorem bg_le {l : List UInt8} {o i x : Nat} (ho : o ≤ l.length) (hx : (bg l)[i]? = some x) : x ≤ o ↔ i < cnt l o := by
  obtain ⟨r, h1, h2⟩ := bgN_split l o l.length ho
  rw [bg, h1] at hx
  by_cases hi : i < (bgN l o).length
  · rw [List.getElem?_append_left hi] at hx
    have := mem_bgN.1 (List.mem_of_getElem? hx)
    exact ⟨fun _ => hi, fun _ => this.2.1⟩
  · rw [List.getElem?_append_right (by omega)] at hx
    have := h2 x (List.mem_of_getElem? hx)
    exact ⟨fun h => by omega, fun h => absurd h hi⟩
theorem cnt_le (l : List UInt8) (o : Nat) (ho : o ≤ l.length) : cnt l o ≤ (bg l).length := by
  obtain ⟨r, h1, _⟩ := bgN_split l o l.length ho
  rw [bg, h1, List.length_append, cnt]; omega
end Po

set_option maxHeartbeats 2000000 in
set_option maxRecDepth 100000 in
/-- At's test: does a line begin behind the offset? -/
theorem test_any (b off n c h o x : Nat) (g1 g2 : Nat) (W : World) (t : Bool) (ht : decide ((o : Int) < (x : Int)) = t) (hh : h < n)
    (a1 : W.cell? ⟨g1, 1, none⟩ = some (.slice (some ⟨b, off, none⟩) n c)) (b0 : W.cell? ⟨g2, 0, none⟩ = some (.int .i64 (o : Int))) (hc : W.cell? ⟨b, off + h, none⟩ = some (.int .i64 (x : Int))) :
    Calls Tryd.prog 23 #[.int .i64 (h : Int), .pointer (some ⟨g1, 0, none⟩), .pointer (some ⟨g2, 0, none⟩)] W fun e w' => e = .returned (.bool t) ∧ ∃ k, w' = W.drewN k := by
  have hi0 : (0 : Int) ≤ h := by omega
  have hin : (h : Int) < n := by omega
  go_enter Tryd.func23, Tryd.ntmps23
  go_wp2
  go_quiet (fail)
  go_wp2
  go_ret
  exact ⟨by rw [← ht]; simp, _, rfl⟩

set_option maxHeartbeats 2000000 in
set_option maxRecDepth 100000 in
theorem search_any (s : ByteArray) (A : Option Addr) (n c o g1 g2 : Nat) (w : World) (hr : Reads w w.heap.size A n (i64s (Po.bg s.data.toList))) (ho : o ≤ s.size) (hn : n ≤ 1073741824)
    (h1 : w.heap[g1]? = some (.cells #[.string s, .slice A n c] 25 (0, 0))) (h2 : w.heap[g2]? = some (.cells #[.int .i64 (o : Int)] 3 (0, 0))) :
    Calls Tryd.prog 22 #[.int .i64 (n : Int), .func (.func 23) #[] #[.pointer (some ⟨g1, 0, none⟩), .pointer (some ⟨g2, 0, none⟩)]] w fun e w' => e = .returned (.int .i64 (Po.cnt s.data.toList o : Int)) ∧ ∃ k, w' = w.drewN k := by
  have hsl : s.data.toList.length = s.size := by simp
  have hbl : (Po.bg s.data.toList).length = n := by have := hr.1; simpa [i64s] using this
  have hcn := Po.cnt_le s.data.toList o (by omega)
  rw [hbl] at hcn
  have HLE := Lib.hid (fun i x (h : (Po.bg s.data.toList)[i]? = some x) => Po.bg_le (by omega : o ≤ s.data.toList.length) h)
  obtain ⟨J, hJ⟩ : ∃ J, Po.cnt s.data.toList o = J := ⟨_, rfl⟩
  rw [hJ] at hcn HLE ⊢
  have a0 := at_block h1 0 (.string s) rfl
  have a1 := at_block h1 1 (.slice A n c) rfl
  have b0 := at_block h2 0 (.int .i64 (o : Int)) rfl
  clear hsl hbl hJ h1 h2
  go_enter Tryd.func22, Tryd.ntmps22
  go_wp2
  go_loopg [5, 6] n (fun g i j wx => ∃ lo hi k : Nat, i = .int .i64 lo ∧ j = .int .i64 hi ∧ wx = w.drewN k ∧ lo ≤ J ∧ J ≤ hi ∧ hi ≤ n ∧ hi ≤ lo + g)
  case atStart => exact ⟨0, n, 0, rfl, rfl, rfl, by omega, by omega, by omega, by omega⟩
  case round =>
    obtain ⟨lo, hi, k, rfl, rfl, rfl, hlJ, hJh, hhn, hfu⟩ := hrel
    by_cases hlt : lo < hi
    · obtain ⟨h, hh⟩ : ∃ h, (lo + hi) / 2 = h := ⟨_, rfl⟩
      have hh1 : lo ≤ h := by omega
      have hh2 : h < hi := by omega
      obtain ⟨b, off, u, rfl, hb, hu, hc⟩ := hr.at_ (k := h) (by omega)
      obtain ⟨x, hx, rfl⟩ := i64_at hu
      have hiff := HLE.out h x hx
      obtain ⟨g, rfl⟩ : ∃ g, gk = g + 1 := ⟨gk - 1, by omega⟩
      have hsum : (lo : Int) + (hi : Int) ≤ 2147483648 := by omega
      have hdiv : ((lo : Int) + (hi : Int)) / 2 = (h : Int) := by omega
      have hlt' : (lo : Int) < hi := by omega
      have hcW : ∀ k, (w.drewN k).cell? ⟨b, off + h, none⟩ = some (.int .i64 (x : Int)) := fun k => hc
      by_cases hxo : x ≤ o
      · have hJ := hiff.1 hxo
        have TC := Lib.hid (fun k => test_any b off n c h o x g1 g2 (w.drewN k) false (by simp; omega) (by omega) a1 b0 (hcW k))
        clear hiff hc hx hu hcW hh
        go_wp2_with fail
        refine (TC.out k).mono ?_
        rintro e w' ⟨rfl, k2, rfl⟩
        go_wp2_with fail
        go_roundg g
        case measure => omega
        case rel => exact ⟨h + 1, hi, k + k2, by go_num, rfl, rfl, by omega, by omega, by omega, by omega⟩
      · have hJ : J ≤ h := by
          rcases Nat.lt_or_ge h J with h' | h'
          · exact absurd (hiff.2 h') hxo
          · exact h'
        have TC := Lib.hid (fun k => test_any b off n c h o x g1 g2 (w.drewN k) true (by simp; omega) (by omega) a1 b0 (hcW k))
        clear hiff hc hx hu hcW hh
        go_wp2_with fail
        refine (TC.out k).mono ?_
        rintro e w' ⟨rfl, k2, rfl⟩
        go_wp2_with fail
        go_roundg g
        case measure => omega
        case rel => exact ⟨lo, h, k + k2, rfl, rfl, rfl, by omega, by omega, by omega, by omega⟩
    · have hlt' : ¬ (lo : Int) < hi := by omega
      obtain rfl : lo = J := by omega
      go_wp2
      go_ret
      exact ⟨rfl, k, rfl⟩

theorem below_drewN (w : World) (n : Nat) : Below w.heap.size w (w.drewN n) := ⟨rfl, rfl, rfl, Nat.le_refl _, fun _ _ => rfl⟩
theorem p3 {A B C : Prop} {a W : World} (h : A ∧ B ∧ C ∧ Below a.heap.size a W) : Below a.heap.size a W := h.2.2.2
theorem p3_trans {A B C : Prop} {a W W' : World} (h : A ∧ B ∧ C ∧ Below a.heap.size a W) (hb : Below W.heap.size W W') : Below a.heap.size a W' := h.2.2.2.trans (hb.mono h.2.2.2.size)

set_option maxHeartbeats 2000000 in
set_option maxRecDepth 100000 in
theorem at_any (s : ByteArray) (A : Option Addr) (n c o : Nat) (w : World) (hr : Reads w w.heap.size A n (i64s (Po.bg s.data.toList))) (ho : o ≤ s.size) (hs : s.size ≤ 1073741824) (hn : n ≤ s.size) :
    Calls Tryd.prog 12 #[.agg #[.string s, .slice A n c], .int .i64 (o : Int)] w fun e w' => e = .returned (.tuple #[.int .i64 (Po.cnt s.data.toList o : Int), .int .i64 ((o : Int) - (Po.beg s.data.toList (Po.cnt s.data.toList o) : Int)), .int .i64 0]) ∧ Below w.heap.size w w' := by
  have hsl : s.data.toList.length = s.size := by simp
  have hbl : (Po.bg s.data.toList).length = n := by have := hr.1; simpa [i64s] using this
  have hcn := Po.cnt_le s.data.toList o (by omega)
  rw [hbl] at hcn
  have hbw : Below w.heap.size w ((w.alloc (.cells #[.string s, .slice A n c] 25)).alloc (.cells #[.int .i64 (o : Int)] 3)) := ((Below.refl _ _).alloc (Nat.le_refl _) _).alloc (by simp) _
  have hr2 := hr.on hbw
  have hX : ((w.alloc (.cells #[.string s, .slice A n c] 25)).alloc (.cells #[.int .i64 (o : Int)] 3)).heap[w.heap.size]? = some (.cells #[.string s, .slice A n c] 25 (0, 0)) := (Below.heap_alloc _ _ _ (by simp)).trans (heap_alloc_new w _)
  have hY : ((w.alloc (.cells #[.string s, .slice A n c] 25)).alloc (.cells #[.int .i64 (o : Int)] 3)).heap[w.heap.size + 1]? = some (.cells #[.int .i64 (o : Int)] 3 (0, 0)) := by
    have := heap_alloc_new (w.alloc (.cells #[.string s, .slice A n c] 25)) (.cells #[.int .i64 (o : Int)] 3)
    simpa using this
  have SE := Lib.hid (search_any s A n c o w.heap.size (w.heap.size + 1) _ hr2 ho (by omega) hX hY)
  obtain ⟨J, hJ⟩ : ∃ J, Po.cnt s.data.toList o = J := ⟨_, rfl⟩
  rw [hJ] at hcn SE ⊢
  have HBE := Lib.hid (fun W (hW : Reads W W.heap.size A n (i64s (Po.bg s.data.toList))) => begin_any s s.data.toList A n c J W hW hcn (by omega))
  have HX := Lib.hid hX
  have HY := Lib.hid hY
  have hbx : (Po.beg s.data.toList J : Int) ≤ 1073741824 ∧ (0 : Int) ≤ (Po.beg s.data.toList J : Int) := by
    refine ⟨?_, by omega⟩
    cases J with
    | zero => simp [Po.beg]
    | succ j =>
      have h1 : (Po.bg s.data.toList)[j]? = some ((Po.bg s.data.toList)[j]'(by omega)) := List.getElem?_eq_getElem (by omega)
      have h2 := Po.mem_bgN.1 (List.mem_of_getElem? h1)
      rw [Po.beg, List.getD_eq_getElem?_getD, h1]
      simp only [Option.getD_some]
      omega
  obtain ⟨B, hB⟩ : ∃ B, Po.beg s.data.toList J = B := ⟨_, rfl⟩
  rw [hB] at HBE hbx ⊢
  obtain ⟨hbx1, hbx2⟩ := hbx
  have hr2' := Lib.hid hr2
  clear hJ hsl hbl hX hY hB hr2
  go_enter Tryd.func12, Tryd.ntmps12
  go_wp2_with fail
  refine SE.out.mono ?_
  rintro e w' ⟨rfl, k, rfl⟩
  generalize hw2 : (w.alloc (.cells #[.string s, .slice A n c] 25)).alloc (.cells #[.int .i64 (o : Int)] 3) = w2 at *
  have hX2 := HX.out
  have hY2 := HY.out
  have hlX := lt_of_block hX2
  have hlY := lt_of_block hY2
  have hcells : ∀ W, Below w2.heap.size w2 W → W.cell? ⟨w.heap.size, 0, none⟩ = some (.string s) ∧ W.cell? ⟨w.heap.size, 1, none⟩ = some (.slice A n c) ∧ W.cell? ⟨w.heap.size + 1, 0, none⟩ = some (.int .i64 (o : Int)) ∧ Below w2.heap.size w2 W := by
    intro W hW
    have h1 := (hW.block w.heap.size hlX).trans hX2
    have h2 := (hW.block (w.heap.size + 1) hlY).trans hY2
    exact ⟨at_block h1 0 _ rfl, at_block h1 1 _ rfl, at_block h2 0 _ rfl, hW⟩
  have HC := Lib.hid hcells
  have hsub : IntKind.i64.wrap ((o : Int) - (B : Int)) = (o : Int) - (B : Int) := IntWalk.i64_in _ (by omega)
  clear hcells hX2 hY2
  go_wp2_with fail
  go_region_held3 (fun W => W.cell? ⟨w.heap.size, 0, none⟩ = some (.string s) ∧ W.cell? ⟨w.heap.size, 1, none⟩ = some (.slice A n c) ∧ W.cell? ⟨w.heap.size + 1, 0, none⟩ = some (.int .i64 (o : Int)) ∧ Below w2.heap.size w2 W)
    ((refine HC.out _ ?_; first | assumption | exact below_drewN _ _ | exact (below_drewN _ _).drew))
    (first | (go_at_call 24; refine (HBE.out _ (hr2'.out.on (p3 (by assumption)))).mono ?_; rintro e w7 ⟨rfl, hb7⟩; have hb7' := p3_trans (by assumption) hb7))
  all_goals
    go_wp2_with fail
    refine bodyPost_ret (v := .tuple #[.int .i64 (J : Int), .int .i64 ((o : Int) - (B : Int)), .int .i64 0]) (by simp [results, Tryd.results12, go_sem]) rfl ?_
    refine ⟨rfl, hbw.trans (Below.mono (B := w2.heap.size) ?_ hbw.size)⟩
    assumption

set_option maxHeartbeats 2000000 in
set_option maxRecDepth 100000 in
theorem at_bad (s : ByteArray) (A : Option Addr) (n c : Nat) (o : Int) (w : World) (ho : o < 0 ∨ (s.size : Int) < o) :
    Calls Tryd.prog 12 #[.agg #[.string s, .slice A n c], .int .i64 o] w fun e w' => e = .returned (.tuple #[.int .i64 0, .int .i64 0, .int .i64 2]) ∧ Below w.heap.size w w' := by
  by_cases h0 : o < 0
  · clear ho
    go_enter Tryd.func12, Tryd.ntmps12
    go_wp2
    refine bodyPost_ret (v := .tuple #[.int .i64 0, .int .i64 0, .int .i64 2]) (by simp [results, Tryd.results12, go_sem]) rfl ?_
    exact ⟨rfl, ((Below.refl _ _).alloc (Nat.le_refl _) _).alloc (by simp) _⟩
  · have h1 : (s.size : Int) < o := by omega
    clear ho
    go_enter Tryd.func12, Tryd.ntmps12
    go_wp2
    refine bodyPost_ret (v := .tuple #[.int .i64 0, .int .i64 0, .int .i64 2]) (by simp [results, Tryd.results12, go_sem]) rfl ?_
    exact ⟨rfl, ((Below.refl _ _).alloc (Nat.le_refl _) _).alloc (by simp) _⟩
end Go.Proofs.YtcjhipcjhgicoaaDoor
