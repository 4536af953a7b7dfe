/- What every row's proof of this seat shares: the variables that the rows list, a world for the witness, and the last step of a law that makes memory and turns none. -/
import Derived.Test.YtmgafnflkfbckaaGreatDoorWalkAG
import Derived.Test.YtmgafnflkfbckaaGreatDoorCards
import Derived.Test.YtmgafnflkfbckaaGreatDoorTie
import Derived.Below
import Derived.ProofKit
import Derived.OpenShut
import Derived.Deep.DeepHandedRow
import Derived.Lib.LaidU8
import Derived.MakeChecks
import Derived.Lay
namespace Go.Proofs.YtmgafnflkfbckaaGreatDoor
open Go.ChangeShapes Go.WideShapes Go.ChangeAt Go.RowKit Go.Lib

section
variable {H : Type} {enc : TypeId × Value → H} {P : Program}
/-- Arguments read behind the call as before it. -/
theorem trodAll_below (hl : laidOutB P = true) {W W' : World} (hb : Below W.heap.size W W') : ∀ {ts : List TypeId} {vs : List Value} {ds : List (DataW H)} {ps : List MemPlace}, (∀ t ∈ ts, P.readableRec t = true ∧ t < P.types.size) →
    DataW.TrodAll enc P W 0 (fun _ => true) true ts vs ds ps → (∀ x ∈ ps, x.block < W.heap.size) → DataW.TrodAll enc P W' 0 (fun b => decide (b < W.heap.size)) true ts vs ds ps
  | [], vs, ds, ps, _, h, _ => by
    obtain ⟨rfl, rfl, rfl⟩ := trodAll_nil h
    exact trodAll_mk0
  | t :: ts, vs, ds, ps, ht, h, hlt => by
    obtain ⟨v0, vs0, d0, ds0, p0, q0, rfl, rfl, rfl, h0, r0⟩ := trodAll_cons h
    exact trodAll_cons_mk (Below.trod hl (ht t (by simp)).1 (ht t (by simp)).2 h0 hb (fun x hx => hlt x (by simp [hx])))
      (trodAll_below hl hb (fun t' h' => ht t' (by simp [h'])) r0 (fun x hx => hlt x (by simp [hx])))

theorem post_keep {f : Func} {s : ChangeSpec} {apart fresh handsOn : Bool} {W W' : World} {args : Array Value} {v : Value} {ds gs : List (DataW H)} {before : List MemPlace}
    (hW : DataW.Whole enc P f.params.toList s.vars apart W args.toList ds gs before) (hv0 : s.vars = [])
    (hres : ∀ (b : Nat) (sp : Nat → Bool) (hd : Bool), DataW.TrodAll enc P W' b sp hd f.resultTypes.toList (v.resultList f.resultTypes.size) (s.fn H (ds ++ gs)).results [])
    (hsame : (s.fn H (ds ++ gs)).args = ds) (hnov : (s.fn H (ds ++ gs)).vars = [])
    (hl : laidOutB P = true) (ht : ∀ t ∈ f.params.toList, P.readableRec t = true ∧ t < P.types.size) (hb : Below W.heap.size W W') :
    s.post enc P f apart fresh handsOn false W args v W' := by
  have hlt : ∀ p ∈ before, p.block < W.heap.size := fun p hp => hW.lt p hp
  have hW2 := hW
  obtain ⟨p, q, hA, hV, rfl, _, _⟩ := hW2
  rw [hv0] at hV
  obtain ⟨rfl, rfl⟩ := trodVars_none hV
  have hargs : DataW.TrodAll enc P W' 0 (fun b => decide (b < W.heap.size)) true f.params.toList args.toList (s.fn H (ds ++ [])).args p := by
    rw [hsame]
    exact trodAll_below hl hb ht hA (fun x hx => hlt x (by simp [hx]))
  refine ⟨ds, [], p ++ [], [], p, [], hW, hres _ _ _, hargs, ?_, World.keptBut_mono (fun x hx => ⟨hx, ?_⟩) (hb.frame (· ∈ p ++ [])), fun h => by cases h⟩
  · rw [hv0, hnov]; rfl
  · exact .inr (by simpa using hx)
end

theorem own : ownKnob Tryz.prog.godebug = none := by kernel_rfl
theorem laidOut : laidOutB Tryz.prog = true := by kernel_rfl
def laidL : List (String × DataW Unit) := Rows.decimalAddsRow.laid
/-- A world for the witness: the settled one, the listed variables as their initialisers lay them. -/
noncomputable def laidWorld (os : Os) : World := World.laidAll Tryz.prog os laidL
theorem laid_met (os : Os) (args : Array Value) : laidMet Tryz.prog laidL ((laidWorld os).forCall (fun _ _ => 0) ⟨#[], args, []⟩).memory :=
  laidMet_laidAll args (by kernel_rfl) (by kernel_rfl)
theorem laid_plain (w : World) : laidMetH Tryz.prog laidL w = laidMet Tryz.prog laidL w := Go.MakeChecks.laidMetH_plain _ _ _ (by kernel_rfl)

theorem err_cell {w : World} {n : String} {d : DataW Unit} {g : Nat} {t : TypeId} {nm : String} {d' : DataW Unit} {ms : Array (String × TypeId)} (h : VarReads Tryz.prog w n d) (hd : d = .iface nm d') (hg : Tryz.prog.globalNamed n = some g) (ht : (Tryz.prog.globals[g]?).map (·.type) = some t)
    (hi : Tryz.prog.underlying t = some (.interface ms)) : ∃ ev, w.cell? ⟨g, 0, none⟩ = some ev ∧ (ev = .nilIface ∨ ∃ te pe, ev = .iface te pe) := by
  obtain ⟨g', t', cs, fuel, p, h1, h2, h3, h4⟩ := h
  obtain rfl := Option.some.inj (hg.symm.trans h1)
  obtain rfl := Option.some.inj (ht.symm.trans h2)
  subst hd
  obtain ⟨_, u, v, hcs, _, _⟩ := iface_of_trod hi h4
  refine ⟨.iface u v, ?_, Or.inr ⟨u, v, rfl⟩⟩
  have := World.var?_cell hg h3 0
  rw [this]
  have e : cs[0]? = cs.toList[0]? := by simp
  rw [e, hcs]; rfl
theorem laid_of {w : World} (h : laidMetH Tryz.prog laidL w) : Laid w := by
  rw [laid_plain] at h
  have hp := laidMet.reads h (n := "internal/strconv.uint64pow10") (d := Rows.laid_internal_strconv_uint64pow10) (by simp [laidL, Rows.decimalAddsRow])
  have hs := laidMet.reads h (n := "strconv.ErrSyntax") (d := Rows.laid_strconv_ErrSyntax) (by simp [laidL, Rows.decimalAddsRow])
  have hr := laidMet.reads h (n := "strconv.ErrRange") (d := Rows.laid_strconv_ErrRange) (by simp [laidL, Rows.decimalAddsRow])
  have hT : Lib.TabIs Tryz.prog w "internal/strconv.uint64pow10" .u64 Lib.pow10Tab := by
    obtain ⟨g', t', cs, fuel, p, h1, h2, h3, h4⟩ := hp
    obtain rfl := Option.some.inj (pow10_at.symm.trans h1)
    obtain rfl := Option.some.inj ((show (Tryz.prog.globals[3]?).map (·.type) = some 119 by kernel_rfl).symm.trans h2)
    have := cells_of_tab (k := .u64) (zs := Lib.pow10Tab) Tryz.underlying119 Tryz.underlying93 (by kernel_rfl) (by kernel_rfl) h4
    unfold Lib.TabIs
    rw [h3, ← this]
  refine ⟨hT, ?_, err_cell hs rfl (by kernel_rfl) (by kernel_rfl) Tryz.underlying65, err_cell hr rfl (by kernel_rfl) (by kernel_rfl) Tryz.underlying65⟩
  have := World.block_lt_of_cell? w _ (hT.cell pow10_at 0 (by decide))
  exact this
end Go.Proofs.YtmgafnflkfbckaaGreatDoor
