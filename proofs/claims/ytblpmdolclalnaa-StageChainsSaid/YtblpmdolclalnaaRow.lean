/- What every row's proof of this seat shares: slices among the arguments; the last step of a law that makes memory and turns none of the arguments'. -/
import Derived.Test.YtblpmdolclalnaaB28
import Derived.Test.YtblpmdolclalnaaRows
import Derived.ProofKit
import Derived.OpenShut
import Derived.ChangeSlices
import Derived.SliceStrings
import Derived.WideShapes
import Derived.Conc.LeavingOf
import Derived.Conc.Holds
namespace Go.Proofs.Ytblpmdolclalnaa
open Go.ChangeShapes Go.WideShapes Go.ChangeAt Go.RowKit Go.Conc

section
variable {H : Type} {enc : TypeId × Value → H} {P : Program}
/-- Arguments read behind the call as before it. -/
theorem trodAll_below (hl : laidOutB P = true) {W W' : World} (hb : Below W.heap.size W W') : ∀ {ts : List TypeId} {vs : List Value} {ds : List (DataW H)} {ps : List MemPlace}, (∀ t ∈ ts, P.readableRec t = true ∧ t < P.types.size) →
    DataW.TrodAll enc P W 0 (fun _ => true) true ts vs ds ps → (∀ x ∈ ps, x.block < W.heap.size) → DataW.TrodAll enc P W' 0 (fun b => decide (b < W.heap.size)) true ts vs ds ps
  | [], vs, ds, ps, _, h, _ => by
    obtain ⟨rfl, rfl, rfl⟩ := trodAll_nil h
    exact trodAll_mk0
  | t :: ts, vs, ds, ps, ht, h, hlt => by
    obtain ⟨v0, vs0, d0, ds0, p0, q0, rfl, rfl, rfl, h0, r0⟩ := trodAll_cons h
    exact trodAll_cons_mk (Below.trod hl (ht t (by simp)).1 (ht t (by simp)).2 h0 hb (fun x hx => hlt x (by simp [hx])))
      (trodAll_below hl hb (fun t' h' => ht t' (by simp [h'])) r0 (fun x hx => hlt x (by simp [hx])))

theorem post_keep {f : Func} {s : ChangeSpec} {apart fresh handsOn : Bool} {W W' : World} {args : Array Value} {v : Value} {ds gs : List (DataW H)} {before : List MemPlace}
    (hW : DataW.Whole enc P f.params.toList s.vars apart W args.toList ds gs before) (hv0 : s.vars = [])
    (hres : ∀ (b : Nat) (sp : Nat → Bool) (hd : Bool), DataW.TrodAll enc P W' b sp hd f.resultTypes.toList (v.resultList f.resultTypes.size) (s.fn H (ds ++ gs)).results [])
    (hsame : (s.fn H (ds ++ gs)).args = ds) (hnov : (s.fn H (ds ++ gs)).vars = [])
    (hl : laidOutB P = true) (ht : ∀ t ∈ f.params.toList, P.readableRec t = true ∧ t < P.types.size) (hb : Below W.heap.size W W') :
    s.post enc P f apart fresh handsOn false W args v W' := by
  have hlt : ∀ p ∈ before, p.block < W.heap.size := fun p hp => hW.lt p hp
  have hW2 := hW
  obtain ⟨p, q, hA, hV, rfl, _, _⟩ := hW2
  rw [hv0] at hV
  obtain ⟨rfl, rfl⟩ := trodVars_none hV
  have hargs : DataW.TrodAll enc P W' 0 (fun b => decide (b < W.heap.size)) true f.params.toList args.toList (s.fn H (ds ++ [])).args p := by
    rw [hsame]
    exact trodAll_below hl hb ht hA (fun x hx => hlt x (by simp [hx]))
  refine ⟨ds, [], p ++ [], [], p, [], hW, hres _ _ _, hargs, ?_, World.keptBut_mono (fun x hx => ⟨hx, ?_⟩) (hb.frame (· ∈ p ++ [])), fun h => by cases h⟩
  · rw [hv0, hnov]; rfl
  · exact .inr (by simpa using hx)
end
theorem Try.own : ownKnob Try.prog.godebug = none := by kernel_rfl
theorem Try.laidOut : laidOutB Try.prog = true := by kernel_rfl
theorem PostL.below {w w' : World} {v : Value} (h : PostL w v w') : v = .bool true ∧ Below w.heap.size w w' := ⟨h.1, h.2.1, h.2.2.1, h.2.2.2.1, h.2.2.2.2.1, h.2.2.2.2.2⟩

theorem cellsOf3 : Try.prog.cellsOf 3 = 1 := by kernel_rfl
theorem cellsOf5 : Try.prog.cellsOf 5 = 1 := by kernel_rfl
theorem ls_cells {w : World} {a : Addr} {xs : List Value} (hc : ∀ i u, xs[i]? = some u → w.cell? (a.add i) = some u) : Ls none0 (some a) xs w := fun i v hv => by
  obtain ⟨b, off, spot⟩ := a
  have hlt : i < xs.length := (List.getElem?_eq_some_iff.1 hv).1
  have h0 := hc 0 _ (List.getElem?_eq_getElem (by omega))
  have hs : spot = none := by simpa [Addr.add] using World.cell?_spot h0
  subst hs
  have h1 := hc i v hv
  exact ⟨b, off, rfl, id, by rw [Addr.add_lit] at h1; exact h1⟩
set_option maxRecDepth 1000000 in
theorem slice_lt {w : World} {r : _root_.Go.Reach} {b0 : Nat} {a : Addr} {len cap : Nat} (hv : Value.okWide Try.prog w r b0 22 (.slice (some a) len cap)) : ∃ bl o, some a = some ⟨bl, o, none⟩ ∧ bl < w.heap.size := by
  simp only [Value.okWide, Try.underlying22, Cell.okWide, Cell.ok, World.has] at hv
  obtain ⟨_, _, _, hs, row, cells, hsh, _⟩ := hv
  obtain ⟨b, off, spot⟩ := a
  have hs' : spot = none := hs
  subst hs'
  refine ⟨b, off, rfl, ?_⟩
  rcases Nat.lt_or_ge b w.heap.size with h | h
  · exact h
  · simp [World.shape?, Array.getElem?_eq_none h] at hsh
set_option maxRecDepth 1000000 in
/-- A slice of ints. -/
theorem open_is {H : Type} {enc : TypeId × Value → H} {w : World} {r : _root_.Go.Reach} {b0 : Nat} {v : Value} {d : DataW H} {ps : List MemPlace} (hv : Value.okWide Try.prog w r b0 22 v)
    (h : DataW.Trod enc Try.prog w 0 (fun _ => true) true 22 v d ps) : ∃ (A : Option Addr) (c : Nat) (zs : List Int), v = .slice A zs.length c ∧ Ls none0 A (ints zs) w ∧ ((A = none ∧ c = 0 ∧ zs = []) ∨ ∃ bl o, A = some ⟨bl, o, none⟩ ∧ bl < w.heap.size) ∧ zs.length < 9223372036854775808 := by
  obtain ⟨a0, len, cap, rfl⟩ := okWide_slice Try.underlying22 hv
  obtain ⟨fuel, hf⟩ := h
  rcases open_ints Try.underlying22 Try.underlying3 cellsOf3 hf with ⟨hcs, hx⟩ | ⟨a, len', cap', zs, hcs, _, hl, hm, hz, hx, hcell, hws⟩
  · simp [Value.cells] at hcs
    obtain ⟨rfl, rfl, rfl⟩ := hcs
    exact ⟨none, 0, [], rfl, fun i v hv => (by cases hv), (.inl ⟨rfl, rfl, rfl⟩), (by show 0 < 9223372036854775808; omega)⟩
  · simp [Value.cells] at hcs
    obtain ⟨rfl, rfl, rfl⟩ := hcs
    simp only [if_true] at hz
    have hlen : (zs.take len).length = len := by simp; omega
    refine ⟨some a, cap, zs.take len, by rw [hlen], ls_cells fun i u hu => ?_, (.inr (slice_lt hv)), by rw [hlen]; simp only [maxLen] at hm; omega⟩
    rw [List.getElem?_map, Option.map_eq_some_iff] at hu
    obtain ⟨s, hs, rfl⟩ := hu
    rw [List.getElem?_take] at hs
    split at hs
    · rw [hcell i (by omega), List.getD_eq_getElem?_getD, hs]; rfl
    · cases hs
set_option maxRecDepth 1000000 in
/-- A slice of bytes. -/
theorem open_bs {H : Type} {enc : TypeId × Value → H} {w : World} {r : _root_.Go.Reach} {b0 : Nat} {v : Value} {d : DataW H} {ps : List MemPlace} (hv : Value.okWide Try.prog w r b0 36 v)
    (h : DataW.Trod enc Try.prog w 0 (fun _ => true) true 36 v d ps) : ∃ (A : Option Addr) (c : Nat) (zs : List Int), v = .slice A zs.length c ∧ Ls none0 A (codesV zs) w ∧ (∀ z ∈ zs, 0 ≤ z ∧ z < 256) ∧ zs.length < 9223372036854775808 := by
  obtain ⟨a0, len, cap, rfl⟩ := okWide_slice Try.underlying36 hv
  obtain ⟨fuel, hf⟩ := h
  rcases open_ints Try.underlying36 Try.underlying5 cellsOf5 hf with ⟨hcs, hx⟩ | ⟨a, len', cap', zs, hcs, _, hl, hm, hz, hx, hcell, hws⟩
  · simp [Value.cells] at hcs
    obtain ⟨rfl, rfl, rfl⟩ := hcs
    exact ⟨none, 0, [], rfl, fun i v hv => (by cases hv), by simp, (by show 0 < 9223372036854775808; omega)⟩
  · simp [Value.cells] at hcs
    obtain ⟨rfl, rfl, rfl⟩ := hcs
    simp only [if_true] at hz
    have hlen : (zs.take len).length = len := by simp; omega
    refine ⟨some a, cap, zs.take len, by rw [hlen], ls_cells fun i u hu => ?_, fun z hz => ?_, by rw [hlen]; simp only [maxLen] at hm; omega⟩
    · rw [List.getElem?_map, Option.map_eq_some_iff] at hu
      obtain ⟨s, hs, rfl⟩ := hu
      rw [List.getElem?_take] at hs
      split at hs
      · rw [hcell i (by omega), List.getD_eq_getElem?_getD, hs]; rfl
      · cases hs
    · have := hws z (List.mem_of_mem_take hz)
      have h2 : IntKind.u8.min ≤ z ∧ z ≤ IntKind.u8.max := by simpa [Lit.wf] using this
      have e1 : IntKind.u8.min = 0 := by decide
      have e2 : IntKind.u8.max = 255 := by decide
      omega
end Go.Proofs.Ytblpmdolclalnaa
