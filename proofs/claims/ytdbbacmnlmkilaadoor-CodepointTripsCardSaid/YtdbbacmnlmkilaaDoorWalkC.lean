/- The contract of the comparison of two lists of scalars: two slices that read as the same cells are equal. -/
import Derived.Test.YtdbbacmnlmkilaaDoorWalkB
namespace Go.Proofs.YtdbbacmnlmkilaaDoor
open Go.RowKit Go.Lib

def i32s (l : List Int) : List Value := l.map fun (r : Int) => Value.int .i32 r
theorem runes_i32s (l : List Nat) : Cp.runes l = i32s (l.map fun (r : Nat) => (r : Int)) := by simp [Cp.runes, i32s]

set_option maxHeartbeats 1000000 in
set_option maxRecDepth 100000 in
theorem is_same (xs : List Int) (A A' : Option Addr) (c c' : Nat) (w : World) (hA : Reads w w.heap.size A xs.length (i32s xs)) (hA' : Reads w w.heap.size A' xs.length (i32s xs)) (hn : xs.length ≤ 1073741824) :
    Calls Tryd.prog 14 #[.slice A xs.length c, .slice A' xs.length c'] w fun e w' => e = .returned (.bool true) ∧ ∃ k, w' = w.drewN k := by
  have hl : ((xs.length : Int) != xs.length) = false := by simp
  obtain ⟨n, hN⟩ : ∃ n, xs.length = n := ⟨_, rfl⟩
  rw [hN] at hA hA' hl hn ⊢
  have HN := Lib.hid hN
  clear hN
  go_enter Tryd.func14, Tryd.ntmps14
  go_wp2
  go_loopg [5] n (fun g i wx => ∃ (k m : Nat), i = .int .i64 k ∧ wx = w.drewN m ∧ k ≤ n ∧ n ≤ k + g)
  case atStart => exact ⟨0, 0, rfl, rfl, by omega, by omega⟩
  case round =>
    obtain ⟨k, m, rfl, rfl, hk, hg⟩ := hrel
    by_cases hlt : k < n
    · obtain ⟨b, off, u, rfl, hb, hu, hc⟩ := hA.at_ hlt
      obtain ⟨b', off', u', rfl, hb', hu', hc'⟩ := hA'.at_ hlt
      have hx : ∃ x : Int, u = .int .i32 x ∧ u' = .int .i32 x := by
        rw [hu] at hu'
        simp only [i32s, List.getElem?_map, Option.map_eq_some_iff] at hu
        obtain ⟨x, _, rfl⟩ := hu
        exact ⟨x, rfl, (Option.some.inj hu').symm⟩
      obtain ⟨x, rfl, rfl⟩ := hx
      have hne : (x != x) = false := by simp
      have hki : (k : Int) < n := by omega
      have hk0 : (0 : Int) ≤ k := by omega
      obtain ⟨g, rfl⟩ : ∃ g, gk = g + 1 := ⟨gk - 1, by omega⟩
      clear hu hu' hA hA'
      go_wp2
      go_quiet (fail)
      go_wp2
      go_roundg g
      case measure => omega
      case rel => exact ⟨k + 1, _, by go_num, rfl, by omega, by omega⟩
    · have hlt' : ¬ (k : Int) < n := by omega
      go_wp2
      go_ret
      exact ⟨rfl, _, rfl⟩
end Go.Proofs.YtdbbacmnlmkilaaDoor
