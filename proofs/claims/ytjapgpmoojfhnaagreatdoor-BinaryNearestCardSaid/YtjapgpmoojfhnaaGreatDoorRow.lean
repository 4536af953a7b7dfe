/- What every row's proof of this seat shares: the variables that the rows list, a world for the witness, and the last step of a law that makes memory and turns none. -/
import Derived.Test.YtjapgpmoojfhnaaGreatDoorB18
import Derived.Test.YtjapgpmoojfhnaaGreatDoorCards
import Derived.Test.YtjapgpmoojfhnaaGreatDoorTie
import Derived.Below
import Derived.ProofKit
import Derived.OpenShut
import Derived.Deep.DeepHandedRow
import Derived.Lib.LaidU8
import Derived.MakeChecks
import Derived.Lay
import Derived.Shelf.Vars
import Derived.Deep.Strs
import Derived.Lib.LaidTab
namespace Go.Proofs.YtjapgpmoojfhnaaGreatDoor
open Go.ChangeShapes Go.WideShapes Go.ChangeAt Go.RowKit Go.Lib

section
variable {H : Type} {enc : TypeId × Value → H} {P : Program}
/-- Arguments read behind the call as before it. -/
theorem trodAll_below (hl : laidOutB P = true) {W W' : World} (hb : Below W.heap.size W W') : ∀ {ts : List TypeId} {vs : List Value} {ds : List (DataW H)} {ps : List MemPlace}, (∀ t ∈ ts, P.readableRec t = true ∧ t < P.types.size) →
    DataW.TrodAll enc P W 0 (fun _ => true) true ts vs ds ps → (∀ x ∈ ps, x.block < W.heap.size) → DataW.TrodAll enc P W' 0 (fun b => decide (b < W.heap.size)) true ts vs ds ps
  | [], vs, ds, ps, _, h, _ => by
    obtain ⟨rfl, rfl, rfl⟩ := trodAll_nil h
    exact trodAll_mk0
  | t :: ts, vs, ds, ps, ht, h, hlt => by
    obtain ⟨v0, vs0, d0, ds0, p0, q0, rfl, rfl, rfl, h0, r0⟩ := trodAll_cons h
    exact trodAll_cons_mk (Below.trod hl (ht t (by simp)).1 (ht t (by simp)).2 h0 hb (fun x hx => hlt x (by simp [hx])))
      (trodAll_below hl hb (fun t' h' => ht t' (by simp [h'])) r0 (fun x hx => hlt x (by simp [hx])))

theorem post_keep {f : Func} {s : ChangeSpec} {apart fresh handsOn : Bool} {W W' : World} {args : Array Value} {v : Value} {ds gs : List (DataW H)} {before : List MemPlace}
    (hW : DataW.Whole enc P f.params.toList s.vars apart W args.toList ds gs before) (hv0 : s.vars = [])
    (hres : ∀ (b : Nat) (sp : Nat → Bool) (hd : Bool), DataW.TrodAll enc P W' b sp hd f.resultTypes.toList (v.resultList f.resultTypes.size) (s.fn H (ds ++ gs)).results [])
    (hsame : (s.fn H (ds ++ gs)).args = ds) (hnov : (s.fn H (ds ++ gs)).vars = [])
    (hl : laidOutB P = true) (ht : ∀ t ∈ f.params.toList, P.readableRec t = true ∧ t < P.types.size) (hb : Below W.heap.size W W') :
    s.post enc P f apart fresh handsOn false W args v W' := by
  have hlt : ∀ p ∈ before, p.block < W.heap.size := fun p hp => hW.lt p hp
  have hW2 := hW
  obtain ⟨p, q, hA, hV, rfl, _, _⟩ := hW2
  rw [hv0] at hV
  obtain ⟨rfl, rfl⟩ := trodVars_none hV
  have hargs : DataW.TrodAll enc P W' 0 (fun b => decide (b < W.heap.size)) true f.params.toList args.toList (s.fn H (ds ++ [])).args p := by
    rw [hsame]
    exact trodAll_below hl hb ht hA (fun x hx => hlt x (by simp [hx]))
  refine ⟨ds, [], p ++ [], [], p, [], hW, hres _ _ _, hargs, ?_, World.keptBut_mono (fun x hx => ⟨hx, ?_⟩) (hb.frame (· ∈ p ++ [])), fun h => by cases h⟩
  · rw [hv0, hnov]; rfl
  · exact .inr (by simpa using hx)
end

theorem own : ownKnob Tryz.prog.godebug = none := by kernel_rfl
theorem laidOut : laidOutB Tryz.prog = true := by kernel_rfl
theorem err_cell {w : World} {n : String} {d : DataW Unit} {g : Nat} {t : TypeId} {nm : String} {d' : DataW Unit} {ms : Array (String × TypeId)} (h : VarReads Tryz.prog w n d) (hd : d = .iface nm d') (hg : Tryz.prog.globalNamed n = some g) (ht : (Tryz.prog.globals[g]?).map (·.type) = some t)
    (hi : Tryz.prog.underlying t = some (.interface ms)) : ∃ ev, w.cell? ⟨g, 0, none⟩ = some ev ∧ (ev = .nilIface ∨ ∃ te pe, ev = .iface te pe) := by
  obtain ⟨g', t', cs, fuel, p, h1, h2, h3, h4⟩ := h
  obtain rfl := Option.some.inj (hg.symm.trans h1)
  obtain rfl := Option.some.inj (ht.symm.trans h2)
  subst hd
  obtain ⟨_, u, v, hcs, _, _⟩ := iface_of_trod hi h4
  refine ⟨.iface u v, ?_, Or.inr ⟨u, v, rfl⟩⟩
  have := World.var?_cell hg h3 0
  rw [this]
  have e : cs[0]? = cs.toList[0]? := by simp
  rw [e, hcs]; rfl
theorem len_three {α : Type} : ∀ {l : List α}, l.length = 3 → ∃ x y z, l = [x, y, z]
  | [x, y, z], _ => ⟨x, y, z, rfl⟩
theorem nine_cells : ∀ {L : List Value}, L.length = 9 → L.take 3 = [.int .i64 16, .int .i64 11, .int .i64 (-24)] → (L.drop 3).take 3 = [.int .i64 32, .int .i64 24, .int .i64 (-149)] → (L.drop 6).take 3 = [.int .i64 64, .int .i64 53, .int .i64 (-1074)] → L = formatsL.map fun z => Value.int .i64 z
  | [a0, a1, a2, a3, a4, a5, a6, a7, a8], _, c0, c1, c2 => by
    simp at c0 c1 c2
    obtain ⟨rfl, rfl, rfl⟩ := c0
    obtain ⟨rfl, rfl, rfl⟩ := c1
    obtain ⟨rfl, rfl, rfl⟩ := c2
    rfl
theorem trod_format {H : Type} {enc : TypeId × Value → H} {w : World} {base : Nat} {sp : Nat → Bool} {hd : Bool} {n : Nat} {cs : List Value} {a b c : Int} {p : List MemPlace}
    (h : DataW.trod enc Tryz.prog w base sp hd n 109 cs = some (.agg [.lit (.int .i64 a), .lit (.int .i64 b), .lit (.int .i64 c)], p)) : cs = [.int .i64 a, .int .i64 b, .int .i64 c] := by
  obtain ⟨y0, y1, y2, m, hx, hl, h0, h1, h2⟩ := Go.Deep.trod_struct3 Tryz.underlying109 h
  have hc : Tryz.prog.cellsOf 109 = 3 := by kernel_rfl
  have hc3 : Tryz.prog.cellsOf 3 = 1 := by kernel_rfl
  rw [hc] at hl
  obtain ⟨x0, x1, x2, rfl⟩ := len_three hl
  simp only [hc3] at h0 h1 h2
  obtain ⟨z0, e0, g0, _⟩ := DataW.trod_int Tryz.underlying3 h0
  obtain ⟨z1, e1, g1, _⟩ := DataW.trod_int Tryz.underlying3 h1
  obtain ⟨z2, e2, g2, _⟩ := DataW.trod_int Tryz.underlying3 h2
  simp at e0 e1 e2
  subst e0 e1 e2 g0 g1 g2
  simp at hx
  obtain ⟨⟨rfl, rfl, rfl⟩, _⟩ := hx
  rfl
theorem formats_cells {w : World} (h : VarReads Tryz.prog w "rosetta/binary.formats" (Rows.laid_rosetta_binary_formats : DataW Unit)) : ∀ j v, formatsL[j]? = some v → w.cell? ⟨1, j, none⟩ = some (.int .i64 v) := by
  obtain ⟨g', t', cs, fuel, p, h1, h2, h3, h4⟩ := h
  obtain rfl := Option.some.inj ((show Tryz.prog.globalNamed "rosetta/binary.formats" = some 1 by kernel_rfl).symm.trans h1)
  obtain rfl := Option.some.inj ((show (Tryz.prog.globals[1]?).map (·.type) = some 151 by kernel_rfl).symm.trans h2)
  have hc : Tryz.prog.cellsOf 109 = 3 := by kernel_rfl
  have hc2 : Tryz.prog.cellsOf 151 = 9 := by kernel_rfl
  cases fuel with
  | zero => simp [DataW.trod] at h4
  | succ fuel =>
    simp only [DataW.trod, Tryz.underlying151, hc, hc2] at h4
    split at h4
    · rename_i hl
      obtain ⟨xs, hm, hx⟩ := Option.map_eq_some_iff.1 h4
      have hxs := congrArg Prod.fst hx
      simp only [Rows.laid_rosetta_binary_formats, DataW.agg.injEq] at hxs
      obtain ⟨y0, e0, f0⟩ := Lib.mapM_at hm 0 0 (by simp)
      obtain ⟨y1, e1, f1⟩ := Lib.mapM_at hm 1 1 (by simp)
      obtain ⟨y2, e2, f2⟩ := Lib.mapM_at hm 2 2 (by simp)
      have hxl : xs.length = 3 := by simpa using Lib.mapM_length hm
      obtain ⟨q0, q1, q2, rfl⟩ := len_three hxl
      simp at e0 e1 e2
      subst e0 e1 e2
      simp at hxs
      obtain ⟨r0, r1, r2⟩ := hxs
      obtain ⟨q00, q01⟩ := q0
      obtain ⟨q10, q11⟩ := q1
      obtain ⟨q20, q21⟩ := q2
      simp only at r0 r1 r2
      subst r0 r1 r2
      have c0 := trod_format f0
      have c1 := trod_format f1
      have c2 := trod_format f2
      have hcl : cs.toList.length = 9 := by simpa using hl
      intro j v hj
      have hget : cs.toList[j]? = some (.int .i64 v) := by
        rw [nine_cells hcl (by simpa using c0) c1 c2, List.getElem?_map, hj]
        rfl
      have hcell := World.var?_cell (show Tryz.prog.globalNamed "rosetta/binary.formats" = some 1 by kernel_rfl) h3 j
      rw [hcell]
      rw [← hget]
      simp
    · cases h4
theorem debruijn_cells {w : World} (h : VarReads Tryz.prog w "math/bits.deBruijn64tab" (Rows.laid_math_bits_deBruijn64tab : DataW Unit)) : TabAt 2 Lib.deBruijn64tab w := by
  obtain ⟨g', t', cs, fuel, p, h1, h2, h3, h4⟩ := h
  obtain rfl := Option.some.inj ((show Tryz.prog.globalNamed "math/bits.deBruijn64tab" = some 2 by kernel_rfl).symm.trans h1)
  obtain rfl := Option.some.inj ((show (Tryz.prog.globals[2]?).map (·.type) = some 168 by kernel_rfl).symm.trans h2)
  have hcs := Lib.cells_of_tab (k := .u8) (zs := Lib.deBruijn64tab.map fun (x : Nat) => (x : Int)) Tryz.underlying168 Tryz.underlying5 (by kernel_rfl) (by kernel_rfl) h4
  intro j hj
  have hcell := World.var?_cell (show Tryz.prog.globalNamed "math/bits.deBruijn64tab" = some 2 by kernel_rfl) h3 j
  rw [hcell]
  have e : cs[j]? = cs.toList[j]? := by simp
  rw [e, hcs, List.getElem?_map, List.getElem?_map, List.getElem?_eq_getElem hj]
  simp [List.getD, List.getElem?_eq_getElem hj]
theorem pow_cells {w : World} (h : VarReads Tryz.prog w "internal/strconv.uint64pow10" (Rows.laid_internal_strconv_uint64pow10 : DataW Unit)) : Lib.TabIs Tryz.prog w "internal/strconv.uint64pow10" .u64 Lib.pow10Tab := by
  obtain ⟨g', t', cs, fuel, p, h1, h2, h3, h4⟩ := h
  obtain rfl := Option.some.inj (pow10_at.symm.trans h1)
  obtain rfl := Option.some.inj ((show (Tryz.prog.globals[6]?).map (·.type) = some 208 by kernel_rfl).symm.trans h2)
  have := Lib.cells_of_tab (k := .u64) (zs := Lib.pow10Tab) Tryz.underlying208 Tryz.underlying22 (by kernel_rfl) (by kernel_rfl) h4
  unfold Lib.TabIs
  rw [h3, ← this]
theorem roomy {w : World} (h : w.ShapedOpen Tryz.prog) : 18 ≤ w.heap.size := by
  have hz : (((begin Tryz.prog (fun _ _ => 0) default).world.heap[17]?).bind Obj.row?).isSome = true := by kernel_rfl
  obtain ⟨⟨zero, t⟩, hzt⟩ := Option.isSome_iff_exists.1 hz
  obtain ⟨cs, hh, _⟩ := h.1 17 zero t (of_decide_eq_true (by kernel_rfl)) hzt
  have := lt_of_block hh
  omega
theorem maxlen_cell {w : World} (h : w.ShapedOpen Tryz.prog) : ∃ m, w.cell? ⟨3, 0, none⟩ = some (.int .i64 m) :=
  Go.Proofs.cell_of_shapedOpen_int (zero := #[.int .i64 0]) (t := 3) h (of_decide_eq_true (by kernel_rfl)) (by kernel_rfl) rfl (by kernel_rfl) (by kernel_rfl) Tryz.underlying3
theorem laid_from {l : List (String × DataW Unit)} {w : World} (h : laidMet Tryz.prog l w) (hS : w.ShapedOpen Tryz.prog)
    (m1 : ("internal/strconv.uint64pow10", Rows.laid_internal_strconv_uint64pow10) ∈ l) (m2 : ("strconv.ErrSyntax", Rows.laid_strconv_ErrSyntax) ∈ l) (m3 : ("strconv.ErrRange", Rows.laid_strconv_ErrRange) ∈ l)
    (m4 : ("math/bits.deBruijn64tab", Rows.laid_math_bits_deBruijn64tab) ∈ l) (m5 : ("rosetta/binary.formats", Rows.laid_rosetta_binary_formats) ∈ l) : Laid w :=
  ⟨pow_cells (laidMet.reads h m1), roomy hS, err_cell (laidMet.reads h m2) rfl (by kernel_rfl) (by kernel_rfl) Tryz.underlying97, err_cell (laidMet.reads h m3) rfl (by kernel_rfl) (by kernel_rfl) Tryz.underlying97,
    debruijn_cells (laidMet.reads h m4), maxlen_cell hS, formats_cells (laidMet.reads h m5)⟩
end Go.Proofs.YtjapgpmoojfhnaaGreatDoor
