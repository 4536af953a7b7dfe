/- The contracts of begin, end and Count. -/
import Derived.Test.YtcjhipcjhgicoaaDoorMem
import Derived.Test.YtcjhipcjhgicoaaDoorPlain
import Derived.IntWalk
import Derived.Deep.DeepCutAuto
namespace Go.Proofs.YtcjhipcjhgicoaaDoor
open Go.RowKit Go.Lib

set_option maxHeartbeats 1000000 in
set_option maxRecDepth 100000 in
theorem begin_any (s : ByteArray) (l : List UInt8) (A : Option Addr) (n c k : Nat) (w : World) (hr : Reads w w.heap.size A n (i64s (Po.bg l))) (hk : k ≤ n) (hn : n ≤ 1073741824) :
    Calls Tryd.prog 24 #[.agg #[.string s, .slice A n c], .int .i64 (k : Int)] w fun e w' => e = .returned (.int .i64 (Po.beg l k : Int)) ∧ Below w.heap.size w w' := by
  cases k with
  | zero =>
    show Calls Tryd.prog 24 #[.agg #[.string s, .slice A n c], .int .i64 0] w fun e w' => e = .returned (.int .i64 ((0 : Nat) : Int)) ∧ Below w.heap.size w w'
    go_enter Tryd.func24, Tryd.ntmps24
    go_wp2
    go_ret
    exact ⟨rfl, (Below.refl _ _).alloc (Nat.le_refl _) _⟩
  | succ k =>
    obtain ⟨b, off, u, rfl, hb, hu, hc⟩ := hr.at_ (k := k) (by omega)
    obtain ⟨x, hx, rfl⟩ := i64_at hu
    have e1 : Po.beg l (k + 1) = x := by rw [Po.beg, List.getD_eq_getElem?_getD, hx]; rfl
    rw [e1]
    have hi0 : (0 : Int) ≤ k := by omega
    have hin : (k : Int) < n := by omega
    have hne : (((k + 1 : Nat) : Int) == 0) = false := by simp; omega
    have hw1 : IntKind.i64.wrap (((k + 1 : Nat) : Int) - 1) = (k : Int) := by rw [IntWalk.i64_in _ (by omega)]; omega
    have hs1 : ((k + 1 : Nat) : Int) - 1 = (k : Int) := by omega
    have hca : ∀ o, (w.alloc o).cell? ⟨b, off + k, none⟩ = some (.int .i64 (x : Int)) := fun o => (World.cell?_alloc_lt w o ⟨b, off + k, none⟩ hb).trans hc
    clear hu hx e1
    generalize ((k + 1 : Nat) : Int) = K at *
    go_enter Tryd.func24, Tryd.ntmps24
    go_wp2
    go_ret
    exact ⟨rfl, (Below.refl _ _).alloc (Nat.le_refl _) _⟩

set_option maxHeartbeats 1000000 in
set_option maxRecDepth 100000 in
theorem end_any (s : ByteArray) (A : Option Addr) (n c k : Nat) (w : World) (hr : Reads w w.heap.size A n (i64s (Po.bg s.data.toList))) (hk : k ≤ n) (hn : s.size ≤ 1073741824) :
    Calls Tryd.prog 25 #[.agg #[.string s, .slice A n c], .int .i64 (k : Int)] w fun e w' => e = .returned (.int .i64 (Po.fin s.data.toList k : Int)) ∧ Below w.heap.size w w' := by
  have hlen : (Po.bg s.data.toList).length = n := by have := hr.1; simpa [i64s] using this
  have hl0 := Po.bg_len s.data.toList
  have hsl : s.data.toList.length = s.size := by simp
  by_cases hkn : k = n
  · subst hkn
    have e1 : Po.fin s.data.toList k = s.size := by rw [Po.fin, if_pos hlen.symm]; simp
    rw [e1]
    clear e1 hlen hl0 hsl
    go_enter Tryd.func25, Tryd.ntmps25
    go_wp2
    go_ret
    exact ⟨rfl, (Below.refl _ _).alloc (Nat.le_refl _) _⟩
  · obtain ⟨b, off, u, rfl, hb, hu, hc⟩ := hr.at_ (k := k) (by omega)
    obtain ⟨x, hx, rfl⟩ := i64_at hu
    have hx1 := Po.mem_bgN.1 (List.mem_of_getElem? hx)
    have e1 : ((Po.fin s.data.toList k : Nat) : Int) = (x : Int) - 1 := by rw [Po.fin, if_neg (by omega), List.getD_eq_getElem?_getD, hx]; simp; omega
    rw [e1]
    have hx2 : (x : Int) ≤ 1073741824 := by omega
    have hx3 : (1 : Int) ≤ x := by omega
    have hn9 : (n : Int) ≤ 1073741824 := by omega
    have hi0 : (0 : Int) ≤ k := by omega
    have hin : (k : Int) < n := by omega
    have hne : ((k : Int) == (n : Int)) = false := by simp; omega
    have hca : ∀ o, (w.alloc o).cell? ⟨b, off + k, none⟩ = some (.int .i64 (x : Int)) := fun o => (World.cell?_alloc_lt w o ⟨b, off + k, none⟩ hb).trans hc
    clear hu hx e1 hlen hx1 hl0 hsl
    go_enter Tryd.func25, Tryd.ntmps25
    go_wp2
    go_ret
    exact ⟨rfl, (Below.refl _ _).alloc (Nat.le_refl _) _⟩

set_option maxHeartbeats 1000000 in
theorem count_any (s : ByteArray) (A : Option Addr) (n c : Nat) (w : World) (hn : n ≤ 1073741824) :
    Calls Tryd.prog 14 #[.agg #[.string s, .slice A n c]] w fun e w' => e = .returned (.int .i64 ((n : Int) + 1)) ∧ Below w.heap.size w w' := by
  go_enter Tryd.func14, Tryd.ntmps14
  go_wp2
  go_ret
  exact ⟨rfl, (Below.refl _ _).alloc (Nat.le_refl _) _⟩
end Go.Proofs.YtcjhipcjhgicoaaDoor
