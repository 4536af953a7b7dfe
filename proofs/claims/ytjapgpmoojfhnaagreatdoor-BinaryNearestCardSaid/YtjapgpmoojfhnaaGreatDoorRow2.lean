/- The rows of the laws on decimals: the variables of the library's decimal readers, as their initialisers lay them. -/
import Derived.Test.YtjapgpmoojfhnaaGreatDoorB26
import Derived.Test.YtjapgpmoojfhnaaGreatDoorRow
namespace Go.Proofs.YtjapgpmoojfhnaaGreatDoor
open Go.ChangeShapes Go.WideShapes Go.ChangeAt Go.RowKit Go.Lib

theorem trod_float {H : Type} {enc : TypeId × Value → H} {P : Program} {w : World} {base : Nat} {sp : Nat → Bool} {hd : Bool} {n : Nat} {t : TypeId} {k : FloatKind} {cs : List Value} {x : DataW H × List MemPlace} (ht : P.underlying t = some (.float k))
    (h : DataW.trod enc P w base sp hd n t cs = some x) : ∃ b, cs = [.float k b] ∧ x = (.lit (.float k b), []) := by
  cases n with
  | zero => simp [DataW.trod] at h
  | succ n =>
    unfold DataW.trod at h
    rw [ht] at h
    split at h <;> simp_all
theorem len_two {α : Type} : ∀ {l : List α}, l.length = 2 → ∃ x y, l = [x, y]
  | [x, y], _ => ⟨x, y, rfl⟩
theorem pair_of {H : Type} {enc : TypeId × Value → H} {w : World} {base : Nat} {sp : Nat → Bool} {hd : Bool} {n : Nat} {cs : List Value} {a b : Int} {p : List MemPlace}
    (h : DataW.trod enc Tryz.prog w base sp hd n 261 cs = some (.agg [.lit (.int .u64 a), .lit (.int .u64 b)], p)) : cs = [.int .u64 a, .int .u64 b] := by
  obtain ⟨xs, m, _, hx, hl, hlen, hf⟩ := DataW.trod_struct Tryz.underlying261 h
  have hc : Tryz.prog.cellsOf 261 = 2 := by kernel_rfl
  have hc2 : Tryz.prog.cellsOf 22 = 1 := by kernel_rfl
  rw [hc] at hl
  obtain ⟨x0, x1, rfl⟩ := len_two hl
  obtain ⟨y0, y1, rfl⟩ := len_two (show xs.length = 2 from hlen)
  have h0 : DataW.trod enc Tryz.prog w base sp hd m 22 (([x0, x1].drop 0).take (Tryz.prog.cellsOf 22)) = [y0, y1][0]? := hf 0 _ rfl
  have h1 : DataW.trod enc Tryz.prog w base sp hd m 22 (([x0, x1].drop 1).take (Tryz.prog.cellsOf 22)) = [y0, y1][1]? := hf 1 _ rfl
  rw [hc2] at h0 h1
  obtain ⟨z0, e0, g0, _⟩ := DataW.trod_int Tryz.underlying22 h0
  obtain ⟨z1, e1, g1, _⟩ := DataW.trod_int Tryz.underlying22 h1
  simp at e0 e1
  subst e0 e1 g0 g1
  simp at hx
  obtain ⟨⟨rfl, rfl⟩, _⟩ := hx
  rfl
theorem tab_cells {w : World} (h : VarReads Tryz.prog w "internal/strconv.pow10Tab" Rows.laid_internal_strconv_pow10Tab) : TenTab w := by
  obtain ⟨g', t', cs, fuel, p, h1, h2, h3, h4⟩ := h
  obtain rfl := Option.some.inj ((show Tryz.prog.globalNamed "internal/strconv.pow10Tab" = some 14 by kernel_rfl).symm.trans h1)
  obtain rfl := Option.some.inj ((show (Tryz.prog.globals[14]?).map (·.type) = some 262 by kernel_rfl).symm.trans h2)
  have hc : Tryz.prog.cellsOf 261 = 2 := by kernel_rfl
  cases fuel with
  | zero => simp [DataW.trod] at h4
  | succ fuel =>
    simp only [DataW.trod, Tryz.underlying262, hc] at h4
    split at h4
    · rename_i hl
      obtain ⟨xs, hm, hx⟩ := Option.map_eq_some_iff.1 h4
      have hxs := congrArg Prod.fst hx
      simp only [Rows.laid_internal_strconv_pow10Tab, Go.Pinned.pow10Tab, DataW.agg.injEq] at hxs
      have hxl : xs.length = 696 := by simpa using Lib.mapM_length hm
      intro i hh ll hrow
      have hi : i < 696 := by
        have := congrArg List.length hxs
        rw [List.length_map, List.length_map, hxl] at this
        have := (List.getElem?_eq_some_iff.1 hrow).1
        omega
      obtain ⟨y, e, f⟩ := Lib.mapM_at hm i i (by simp [hi])
      have hy := congrArg (fun l => l[i]?) hxs
      simp only [List.getElem?_map, e, hrow, Option.map_some] at hy
      obtain ⟨y0, y1⟩ := y
      have hy' := Option.some.inj hy
      simp only at hy'
      subst hy'
      have hp := pair_of f
      have g := fun j => World.var?_cell (show Tryz.prog.globalNamed "internal/strconv.pow10Tab" = some 14 by kernel_rfl) h3 j
      have a0 : cs[i * 2]? = some (.int .u64 (hh : Int)) := by
        have := congrArg (fun l => l[0]?) hp
        simpa using this
      have a1 : cs[i * 2 + 1]? = some (.int .u64 (ll : Int)) := by
        have := congrArg (fun l => l[1]?) hp
        simpa using this
      exact ⟨(g _).trans a0, (g _).trans a1⟩
    · cases h4
theorem opt_cell {w : World} (h : VarReads Tryz.prog w "internal/strconv.optimize" (Rows.laid_internal_strconv_optimize : DataW Unit)) : w.cell? ⟨8, 0, none⟩ = some (.bool true) := by
  obtain ⟨g', t', cs, fuel, p, h1, h2, h3, h4⟩ := h
  obtain rfl := Option.some.inj ((show Tryz.prog.globalNamed "internal/strconv.optimize" = some 8 by kernel_rfl).symm.trans h1)
  obtain rfl := Option.some.inj ((show (Tryz.prog.globals[8]?).map (·.type) = some 4 by kernel_rfl).symm.trans h2)
  obtain ⟨b, e, g⟩ := DataW.trod_bool Tryz.underlying4 h4
  simp [Rows.laid_internal_strconv_optimize] at g
  have hcell := World.var?_cell (show Tryz.prog.globalNamed "internal/strconv.optimize" = some 8 by kernel_rfl) h3 0
  rw [hcell]
  have : cs[0]? = cs.toList[0]? := by simp
  rw [this, e, ← g.1]
  rfl
theorem info_cell {w : World} (h : VarReads Tryz.prog w "internal/strconv.float64info" (Rows.laid_internal_strconv_float64info : DataW Unit)) : w.cell? ⟨9, 0, none⟩ = some (.int .u64 52) := by
  obtain ⟨g', t', cs, fuel, p, h1, h2, h3, h4⟩ := h
  obtain rfl := Option.some.inj ((show Tryz.prog.globalNamed "internal/strconv.float64info" = some 9 by kernel_rfl).symm.trans h1)
  obtain rfl := Option.some.inj ((show (Tryz.prog.globals[9]?).map (·.type) = some 226 by kernel_rfl).symm.trans h2)
  obtain ⟨y0, y1, y2, m, hx, hl, g0, g1, g2⟩ := Go.Deep.trod_struct3 Tryz.underlying226 h4
  have hc : Tryz.prog.cellsOf 226 = 3 := by kernel_rfl
  have hc3 : Tryz.prog.cellsOf 51 = 1 := by kernel_rfl
  rw [hc] at hl
  simp only [hc3] at g0
  obtain ⟨z0, e0, k0, _⟩ := DataW.trod_int Tryz.underlying51 g0
  subst k0
  simp [Rows.laid_internal_strconv_float64info] at hx
  have hcell := World.var?_cell (show Tryz.prog.globalNamed "internal/strconv.float64info" = some 9 by kernel_rfl) h3 0
  rw [hcell]
  have := congrArg (fun l => l[0]?) e0
  simp at this
  rw [this, ← hx.1.1]
theorem pow_slice {w : World} (h : VarReads Tryz.prog w "internal/strconv.float64pow10" (Rows.laid_internal_strconv_float64pow10 : DataW Unit)) : ∃ B : Nat × Nat, w.cell? ⟨12, 0, none⟩ = some (.slice (some ⟨B.1, B.2, none⟩) 23 23) ∧ (∀ k, k < 23 → w.cell? ⟨B.1, B.2 + k, none⟩ = some (.float .f64 (Fl.tenW.getD k 0))) ∧ B.1 < w.heap.size := by
  obtain ⟨g', t', cs, fuel, p, h1, h2, h3, h4⟩ := h
  obtain rfl := Option.some.inj ((show Tryz.prog.globalNamed "internal/strconv.float64pow10" = some 12 by kernel_rfl).symm.trans h1)
  obtain rfl := Option.some.inj ((show (Tryz.prog.globals[12]?).map (·.type) = some 256 by kernel_rfl).symm.trans h2)
  have hlaid : (Rows.laid_internal_strconv_float64pow10 : DataW Unit) = .slice (Fl.tenW.map fun b => .lit (.float .f64 b)) [] := rfl
  rw [hlaid] at h4
  have hc : Tryz.prog.cellsOf 57 = 1 := by kernel_rfl
  rcases DataW.trod_slice Tryz.underlying256 h4 with ⟨_, hx⟩ | ⟨a, len, cap, elems, rest, n, _, hcs, hx, _, hlc, _, hel, hat, hsp, _⟩
  · simp at hx
  · simp only [Prod.mk.injEq, DataW.slice.injEq] at hx
    obtain ⟨⟨hx1, hx2⟩, _⟩ := hx
    have hr0 : rest.length = 0 := by have := congrArg List.length hx2; simpa using this.symm
    have hcap := (hsp rfl).1
    have hlen : len = 23 := by
      have := congrArg List.length hx1
      rw [List.length_map, List.length_map, hel] at this
      have e : Fl.tenW.length = 23 := by kernel_rfl
      omega
    have hcell := World.var?_cell (show Tryz.prog.globalNamed "internal/strconv.float64pow10" = some 12 by kernel_rfl) h3 0
    have hc0 : cs[0]? = cs.toList[0]? := by simp
    rw [hc0, hcs] at hcell
    have hk : ∀ k, k < 23 → w.cell? (a.add k) = some (.float .f64 (Fl.tenW.getD k 0)) := fun k hk => by
      have h5 := hat k (by omega)
      rw [hc, Nat.mul_one] at h5
      have h6 := congrArg (fun l => l[k]?) hx1
      have e : Fl.tenW.length = 23 := by kernel_rfl
      have ht : Fl.tenW[k]? = some (Fl.tenW.getD k 0) := by
        rw [List.getD_eq_getElem?_getD, List.getElem?_eq_getElem (by omega)]; rfl
      simp only [List.getElem?_map, ht, Option.map_some] at h6
      obtain ⟨y, hy, hy2⟩ := Option.map_eq_some_iff.1 h6.symm
      rw [hy] at h5
      obtain ⟨cs', h7, h8⟩ := Option.bind_eq_some_iff.1 h5
      unfold World.cells? at h7
      rw [if_pos (Nat.zero_le _)] at h7
      obtain ⟨v, hv, hv2⟩ := Lib.mapM_at h7 0 0 (by simp)
      have hl1 : cs'.length = 1 := by simpa using Lib.mapM_length h7
      obtain ⟨b, e1, e2⟩ := trod_float Tryz.underlying57 h8
      subst e1 e2
      have hv' : v = .float .f64 b := by simpa using hv.symm
      simp only [DataW.lit.injEq, Lit.float.injEq] at hy2
      rw [← hy2.2, ← hv']
      have : (a.add k).add 0 = a.add k := by simp [Addr.add]
      rwa [this] at hv2
    obtain ⟨b, off, spot⟩ := a
    have hs : spot = none := by simpa [Addr.add] using World.cell?_spot (hk 0 (by decide))
    subst hs
    refine ⟨(b, off), ?_, fun k hk' => ?_, ?_⟩
    · rw [hcell, hlen, show cap = 23 by omega]; rfl
    · have := hk k hk'
      rwa [add_plain] at this
    · have h2 := hk 0 (by decide)
      rcases Nat.lt_or_ge b w.heap.size with h | h
      · exact h
      · simp [Addr.add, World.cell?, Array.getElem?_eq_none h] at h2
def laidL2 : List (String × DataW Unit) := Rows.binaryDecimalsRow.laid
/-- A world for the witness: the settled one, the listed variables as their initialisers lay them. -/
noncomputable def laidWorld2 (os : Os) : World := World.laidAll Tryz.prog os laidL2
theorem laid_met2 (os : Os) (args : Array Value) : laidMet Tryz.prog laidL2 ((laidWorld2 os).forCall (fun _ _ => 0) ⟨#[], args, []⟩).memory :=
  laidMet_laidAll args (by kernel_rfl) (by kernel_rfl)
theorem laid_plain2 (w : World) : laidMetH Tryz.prog laidL2 w = laidMet Tryz.prog laidL2 w := Go.MakeChecks.laidMetH_plain _ _ _ (by kernel_rfl)

set_option maxRecDepth 100000 in
theorem shaped_zip2 (os : Os) (args : Array Value) : ((laidWorld2 os).forCall (fun _ _ => 0) ⟨#[], args, []⟩).Shaped Tryz.checked.prog :=
  World.shaped_of_ZipB (by kernel_rfl) (by kernel_rfl)
theorem witness_zip2 {H : Type} {enc : TypeId × Value → H} {os : Os} {f : FuncId} {fn : Func} {s : OpenSpec} {conds : List PathCond} {apart : Bool} {laid : List (String × DataW Unit)} (args : Array Value)
    (hok : Input.okWideB Tryz.checked.prog ((laidWorld2 os).forCall (fun _ _ => 0) ⟨#[], args, []⟩) f ⟨#[], args, []⟩ = true)
    (hrow : s.preRow enc Tryz.checked.prog fn conds apart laid ((laidWorld2 os).forCall (fun _ _ => 0) ⟨#[], args, []⟩).memory args) :
    ∃ (w : World) (tape : Tape) (i : Input), w.os = os ∧ (w.forCall tape i).Shaped Tryz.checked.prog ∧ i.vars = [] ∧ Input.okWide Tryz.checked.prog (w.forCall tape i) .any w.heap.size f i ∧
      s.preRow enc Tryz.checked.prog fn conds apart laid (w.forCall tape i).memory i.args ∧ ({} : Assume).holds Tryz.checked.prog (lone (Frame.enter Tryz.checked.prog f i.args .normal) [] (w.forCall tape i)) :=
  ⟨laidWorld2 os, fun _ _ => 0, ⟨#[], args, []⟩, World.laidAll_os _ _ _, shaped_zip2 os args, (Input.okWide_of_okWideB (base := 0) hok).1, (Input.okWide_of_okWideB hok).2, hrow, by
    simp only [Assume.holds]
    exact ⟨by simp, by simp, by simp, by simp, by simp⟩⟩
theorem laid2_of {w : World} (h : laidMetH Tryz.prog laidL2 w) (hS : w.ShapedOpen Tryz.prog) : ∃ B, Laid2 w B := by
  rw [laid_plain2] at h
  have hl := laid_from h hS (by simp [laidL2, Rows.binaryDecimalsRow]) (by simp [laidL2, Rows.binaryDecimalsRow]) (by simp [laidL2, Rows.binaryDecimalsRow]) (by simp [laidL2, Rows.binaryDecimalsRow]) (by simp [laidL2, Rows.binaryDecimalsRow])
  obtain ⟨B, b1, b2, b3⟩ := pow_slice (laidMet.reads h (d := Rows.laid_internal_strconv_float64pow10) (by simp [laidL2, Rows.binaryDecimalsRow]))
  exact ⟨B, hl, ⟨info_cell (laidMet.reads h (by simp [laidL2, Rows.binaryDecimalsRow])), b1, b2⟩, opt_cell (laidMet.reads h (by simp [laidL2, Rows.binaryDecimalsRow])), tab_cells (laidMet.reads h (by simp [laidL2, Rows.binaryDecimalsRow])), b3⟩
end Go.Proofs.YtjapgpmoojfhnaaGreatDoor
