/- The reference: Limit, sign. Its numbers hold their digits as ints. -/
import Derived.Test.YtmgafnflkfbckaaDoorWalkC
namespace Go.Proofs.YtmgafnflkfbckaaDoor
open Go.RowKit Go.Lib

set_option maxHeartbeats 1000000 in
set_option maxRecDepth 100000 in
theorem refsign_any (g : Bool) (A : Option Addr) (n c : Nat) (e : Int) (w : World) : Calls Tryd.prog 44 #[.agg #[.bool g, .slice A n c, .int .i64 e]] w fun x w' => x = .returned (.string ⟨(Dc.sgnB g).toArray⟩) ∧ Below w.heap.size w w' := by
  cases g with
  | true =>
    go_enter Tryd.func44, Tryd.ntmps44
    go_wp2
    go_ret
    exact ⟨rfl, (Below.refl _ _).alloc (Nat.le_refl _) _⟩
  | false =>
    go_enter Tryd.func44, Tryd.ntmps44
    go_wp2
    go_ret
    exact ⟨rfl, (Below.refl _ _).alloc (Nat.le_refl _) _⟩

set_option maxHeartbeats 1000000 in
set_option maxRecDepth 100000 in
theorem reflimit_any (g : Bool) (A : Option Addr) (n c : Nat) (e : Int) (w : World) : Calls Tryd.prog 18 #[.agg #[.bool g, .slice A n c, .int .i64 e]] w fun x w' => x = .returned (.int .i64 (limN n e : Int)) ∧ Below w.heap.size w w' := by
  by_cases h1 : 400 < n
  · rw [limN, if_pos h1]
    have hi : (400 : Int) < n := by omega
    go_enter Tryd.func18, Tryd.ntmps18
    go_wp2
    go_ret
    exact ⟨rfl, (Below.refl _ _).alloc (Nat.le_refl _) _⟩
  · rw [limN, if_neg h1]
    have hi : ¬ (400 : Int) < n := by omega
    by_cases h3 : 2000 < e
    · rw [if_pos (Or.inr h3)]
      go_enter Tryd.func18, Tryd.ntmps18
      go_wp2
      go_ret
      exact ⟨rfl, (Below.refl _ _).alloc (Nat.le_refl _) _⟩
    · by_cases h2 : e < -2000
      · rw [if_pos (Or.inl h2)]
        go_enter Tryd.func18, Tryd.ntmps18
        go_wp2
        go_ret
        exact ⟨rfl, (Below.refl _ _).alloc (Nat.le_refl _) _⟩
      · rw [if_neg (by omega)]
        go_enter Tryd.func18, Tryd.ntmps18
        go_wp2
        go_ret
        exact ⟨rfl, (Below.refl _ _).alloc (Nat.le_refl _) _⟩
end Go.Proofs.YtmgafnflkfbckaaDoor
