/- What every row's proof of this seat shares: the two tables of the library that the rows list, a world for the witness, and the last step of a law that makes memory and turns none. -/
import Derived.Test.YtcjhipcjhgicoaaDoorCards
import Derived.Test.YtcjhipcjhgicoaaDoorTie
import Derived.Below
import Derived.ProofKit
import Derived.OpenShut
import Derived.Deep.DeepHandedRow
import Derived.Lib.LaidU8
import Derived.MakeChecks
namespace Go.Proofs.YtcjhipcjhgicoaaDoor
open Go.ChangeShapes Go.WideShapes Go.ChangeAt Go.RowKit Go.Lib

section
variable {H : Type} {enc : TypeId × Value → H} {P : Program}
/-- Arguments read behind the call as before it. -/
theorem trodAll_below (hl : laidOutB P = true) {W W' : World} (hb : Below W.heap.size W W') : ∀ {ts : List TypeId} {vs : List Value} {ds : List (DataW H)} {ps : List MemPlace}, (∀ t ∈ ts, P.readableRec t = true ∧ t < P.types.size) →
    DataW.TrodAll enc P W 0 (fun _ => true) true ts vs ds ps → (∀ x ∈ ps, x.block < W.heap.size) → DataW.TrodAll enc P W' 0 (fun b => decide (b < W.heap.size)) true ts vs ds ps
  | [], vs, ds, ps, _, h, _ => by
    obtain ⟨rfl, rfl, rfl⟩ := trodAll_nil h
    exact trodAll_mk0
  | t :: ts, vs, ds, ps, ht, h, hlt => by
    obtain ⟨v0, vs0, d0, ds0, p0, q0, rfl, rfl, rfl, h0, r0⟩ := trodAll_cons h
    exact trodAll_cons_mk (Below.trod hl (ht t (by simp)).1 (ht t (by simp)).2 h0 hb (fun x hx => hlt x (by simp [hx])))
      (trodAll_below hl hb (fun t' h' => ht t' (by simp [h'])) r0 (fun x hx => hlt x (by simp [hx])))

theorem post_keep {f : Func} {s : ChangeSpec} {apart fresh handsOn : Bool} {W W' : World} {args : Array Value} {v : Value} {ds gs : List (DataW H)} {before : List MemPlace}
    (hW : DataW.Whole enc P f.params.toList s.vars apart W args.toList ds gs before) (hv0 : s.vars = [])
    (hres : ∀ (b : Nat) (sp : Nat → Bool) (hd : Bool), DataW.TrodAll enc P W' b sp hd f.resultTypes.toList (v.resultList f.resultTypes.size) (s.fn H (ds ++ gs)).results [])
    (hsame : (s.fn H (ds ++ gs)).args = ds) (hnov : (s.fn H (ds ++ gs)).vars = [])
    (hl : laidOutB P = true) (ht : ∀ t ∈ f.params.toList, P.readableRec t = true ∧ t < P.types.size) (hb : Below W.heap.size W W') :
    s.post enc P f apart fresh handsOn false W args v W' := by
  have hlt : ∀ p ∈ before, p.block < W.heap.size := fun p hp => hW.lt p hp
  have hW2 := hW
  obtain ⟨p, q, hA, hV, rfl, _, _⟩ := hW2
  rw [hv0] at hV
  obtain ⟨rfl, rfl⟩ := trodVars_none hV
  have hargs : DataW.TrodAll enc P W' 0 (fun b => decide (b < W.heap.size)) true f.params.toList args.toList (s.fn H (ds ++ [])).args p := by
    rw [hsame]
    exact trodAll_below hl hb ht hA (fun x hx => hlt x (by simp [hx]))
  refine ⟨ds, [], p ++ [], [], p, [], hW, hres _ _ _, hargs, ?_, World.keptBut_mono (fun x hx => ⟨hx, ?_⟩) (hb.frame (· ∈ p ++ [])), fun h => by cases h⟩
  · rw [hv0, hnov]; rfl
  · exact .inr (by simpa using hx)
end

theorem own : ownKnob Tryd.prog.godebug = none := by kernel_rfl
theorem laidOut : laidOutB Tryd.prog = true := by kernel_rfl
def laidL : List (String × DataW Unit) := Rows.positionFindsRow.laid
def fill0 : Obj → Obj
  | .cells _ t frozen => .cells (Go.Pinned.utf8FirstZ.map fun (n : Nat) => Value.int .u8 (n : Int)).toArray t frozen
  | o => o
def fill1 : Obj → Obj
  | .cells _ t frozen => .cells #[.int .u8 128, .int .u8 191, .int .u8 160, .int .u8 191, .int .u8 128, .int .u8 159, .int .u8 144, .int .u8 191, .int .u8 128, .int .u8 143, .int .u8 0, .int .u8 0, .int .u8 0, .int .u8 0, .int .u8 0, .int .u8 0, .int .u8 0, .int .u8 0, .int .u8 0, .int .u8 0, .int .u8 0, .int .u8 0, .int .u8 0, .int .u8 0, .int .u8 0, .int .u8 0, .int .u8 0, .int .u8 0, .int .u8 0, .int .u8 0, .int .u8 0, .int .u8 0] t frozen
  | o => o
/-- A world for the witness: the settled one, the two tables as their initialisers lay them. -/
noncomputable def laidWorld (os : Os) : World :=
  { World.holding Tryd.prog os ⟨#[], #[], []⟩ with heap := ((World.holding Tryd.prog os ⟨#[], #[], []⟩).heap.modify 1 fill0).modify 2 fill1 }
theorem laid_met (os : Os) (args : Array Value) : laidMet Tryd.prog laidL ((laidWorld os).forCall (fun _ _ => 0) ⟨#[], args, []⟩).memory :=
  laidMet_of_run' 8 (by kernel_rfl) (by kernel_rfl)
end Go.Proofs.YtcjhipcjhgicoaaDoor
