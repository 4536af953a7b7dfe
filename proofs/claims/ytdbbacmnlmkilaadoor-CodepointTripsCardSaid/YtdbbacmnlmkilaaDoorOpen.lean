/- What an argument that is a slice of strings, or of runes, reads. -/
import Derived.Test.YtdbbacmnlmkilaaDoorMem
import Derived.Test.YtdbbacmnlmkilaaDoorWalkC
import Derived.ChangeSlices
import Derived.SliceStrings
import Derived.WideShapes
namespace Go.Proofs.YtdbbacmnlmkilaaDoor
open Go.RowKit Go.Lib Go.WideShapes Go.ChangeShapes 

theorem cellsOf9 : Tryd.prog.cellsOf 9 = 1 := by kernel_rfl
theorem cellsOf21 : Tryd.prog.cellsOf 21 = 1 := by kernel_rfl

/-- Cells that lie in a row read as a list. -/
theorem Reads.of_cells {w : World} {a : Addr} {n : Nat} {xs : List Value} (hn : xs.length = n) (hc : ∀ i u, xs[i]? = some u → w.cell? (a.add i) = some u) : Reads w w.heap.size (some a) n xs := by
  refine ⟨hn, fun h0 => ?_⟩
  obtain ⟨b, off, spot⟩ := a
  have h1 : xs[0]? = some (xs[0]'(by omega)) := List.getElem?_eq_getElem (by omega)
  have hs : spot = none := by simpa [Addr.add] using World.cell?_spot (hc 0 _ h1)
  subst hs
  have hlt : b < w.heap.size := by
    have h2 := hc 0 _ h1
    rcases Nat.lt_or_ge b w.heap.size with h | h
    · exact h
    · simp [Addr.add, World.cell?, Array.getElem?_eq_none h] at h2
  exact ⟨b, off, rfl, hlt, fun j u hj => by rw [← add_plain]; exact hc j u hj⟩

theorem open_strs {H : Type} {enc : TypeId × Value → H} {w : World} {r : Reach} {b0 : Nat} {v : Value} {d : DataW H} {ps : List MemPlace} (hv : Value.okWide Tryd.prog w r b0 35 v)
    (h : DataW.Trod enc Tryd.prog w 0 (fun _ => true) true 35 v d ps) : ∃ (A : Option Addr) (n c : Nat) (ss : List ByteArray), v = .slice A n c ∧ Reads w w.heap.size A n (ss.map Value.string) := by
  obtain ⟨a0, len, cap, rfl⟩ := okWide_slice Tryd.underlying35 hv
  obtain ⟨fuel, hf⟩ := h
  rcases open_strings Tryd.underlying35 Tryd.underlying9 cellsOf9 hf with ⟨hcs, hx⟩ | ⟨a, len', cap', ss, hcs, _, hl, hm, hz, hx, hcell, hws⟩
  · simp [Value.cells] at hcs
    obtain ⟨rfl, rfl, rfl⟩ := hcs
    exact ⟨none, 0, 0, [], rfl, Reads.none_⟩
  · simp [Value.cells] at hcs
    obtain ⟨rfl, rfl, rfl⟩ := hcs
    simp only [if_true] at hz
    refine ⟨some a, len, cap, ss.take len, rfl, Reads.of_cells (by simp; omega) fun i u hu => ?_⟩
    rw [List.getElem?_map, Option.map_eq_some_iff] at hu
    obtain ⟨s, hs, rfl⟩ := hu
    rw [List.getElem?_take] at hs
    split at hs
    · rw [hcell i (by omega), List.getD_eq_getElem?_getD, hs]; rfl
    · cases hs

theorem open_runes {H : Type} {enc : TypeId × Value → H} {w : World} {r : Reach} {b0 : Nat} {v : Value} {d : DataW H} {ps : List MemPlace} (hv : Value.okWide Tryd.prog w r b0 23 v)
    (h : DataW.Trod enc Tryd.prog w 0 (fun _ => true) true 23 v d ps) : ∃ (A : Option Addr) (n c : Nat) (zs : List Int), v = .slice A n c ∧ Reads w w.heap.size A n (i32s zs) ∧ n ≤ c ∧ ∀ z ∈ zs, -2147483648 ≤ z ∧ z < 2147483648 := by
  obtain ⟨a0, len, cap, rfl⟩ := okWide_slice Tryd.underlying23 hv
  obtain ⟨fuel, hf⟩ := h
  rcases open_ints Tryd.underlying23 Tryd.underlying21 cellsOf21 hf with ⟨hcs, hx⟩ | ⟨a, len', cap', zs, hcs, _, hl, hm, hz, hx, hcell, hws⟩
  · simp [Value.cells] at hcs
    obtain ⟨rfl, rfl, rfl⟩ := hcs
    exact ⟨none, 0, 0, [], rfl, Reads.none_, Nat.le_refl _, by simp⟩
  · simp [Value.cells] at hcs
    obtain ⟨rfl, rfl, rfl⟩ := hcs
    simp only [if_true] at hz
    refine ⟨some a, len, cap, zs.take len, rfl, Reads.of_cells (by simp [i32s]; omega) fun i u hu => ?_, hl, fun z hz => ?_⟩
    · rw [i32s, List.getElem?_map, Option.map_eq_some_iff] at hu
      obtain ⟨s, hs, rfl⟩ := hu
      rw [List.getElem?_take] at hs
      split at hs
      · rw [hcell i (by omega), List.getD_eq_getElem?_getD, hs]; rfl
      · cases hs
    · have := hws z (List.mem_of_mem_take hz)
      have h2 : IntKind.i32.min ≤ z ∧ z ≤ IntKind.i32.max := by simpa [Lit.wf] using this
      have e1 : IntKind.i32.min = -2147483648 := by decide
      have e2 : IntKind.i32.max = 2147483647 := by decide
      omega
end Go.Proofs.YtdbbacmnlmkilaaDoor
