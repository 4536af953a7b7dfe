/- The rows of the laws on decimals: the variables of the slow road. -/
import Derived.Test.YtjapgpmoojfhnaaGreatDoorB36
import Derived.Test.YtjapgpmoojfhnaaGreatDoorRow2
import Derived.Deep.SlicePairs
namespace Go.Proofs.YtjapgpmoojfhnaaGreatDoor
open Go.ChangeShapes Go.WideShapes Go.ChangeAt Go.RowKit Go.Lib
theorem info_all {w : World} (h : VarReads Tryz.prog w "internal/strconv.float64info" (Rows.laid_internal_strconv_float64info : DataW Unit)) : Inf64 w := by
  obtain ⟨g', t', cs, fuel, p, h1, h2, h3, h4⟩ := h
  obtain rfl := Option.some.inj ((show Tryz.prog.globalNamed "internal/strconv.float64info" = some 9 by kernel_rfl).symm.trans h1)
  obtain rfl := Option.some.inj ((show (Tryz.prog.globals[9]?).map (·.type) = some 226 by kernel_rfl).symm.trans h2)
  obtain ⟨y0, y1, y2, m, hx, hl, g0, g1, g2⟩ := Go.Deep.trod_struct3 Tryz.underlying226 h4
  have hc : Tryz.prog.cellsOf 226 = 3 := by kernel_rfl
  have hc3 : Tryz.prog.cellsOf 51 = 1 := by kernel_rfl
  have hc4 : Tryz.prog.cellsOf 3 = 1 := by kernel_rfl
  rw [hc] at hl
  simp only [hc3] at g0 g1
  simp only [hc4] at g2
  obtain ⟨z0, e0, k0, _⟩ := DataW.trod_int Tryz.underlying51 g0
  obtain ⟨z1, e1, k1, _⟩ := DataW.trod_int Tryz.underlying51 g1
  obtain ⟨z2, e2, k2, _⟩ := DataW.trod_int Tryz.underlying3 g2
  subst k0 k1 k2
  simp [Rows.laid_internal_strconv_float64info] at hx
  have hcell := fun j => World.var?_cell (show Tryz.prog.globalNamed "internal/strconv.float64info" = some 9 by kernel_rfl) h3 j
  have r0 := congrArg (fun l => l[0]?) e0
  have r1 := congrArg (fun l => l[0]?) e1
  have r2 := congrArg (fun l => l[0]?) e2
  simp at r0 r1 r2
  exact ⟨by rw [hcell, r0, ← hx.1.1], by rw [hcell, r1, ← hx.1.2.1], by rw [hcell, r2, ← hx.1.2.2]⟩
theorem spot_none {w : World} {a : Addr} {v : Value} (h : w.cell? (a.add 0) = some v) : a.spot = none ∧ a.block < w.heap.size := by
  have h1 := World.cell?_spot h
  refine ⟨by simpa [Addr.add] using h1, ?_⟩
  rcases Nat.lt_or_ge a.block w.heap.size with h2 | h2
  · exact h2
  · simp [Addr.add, World.cell?, Array.getElem?_eq_none h2] at h
def cheatB (k : Nat) : Bool := match Go.Pinned.cheatRows[k]? with
  | some (d, s) => decide (d = Fl.chD k) && decide (s.map (·.toNat) = Fl.chS k)
  | none => false
theorem cheat_all : ((List.range 61).all fun k => decide (k = 0) || cheatB k) = true := by kernel_rfl
theorem cheat_at {k : Nat} (h0 : 0 < k) (hk : k < 61) : ∃ s, Go.Pinned.cheatRows[k]? = some (Fl.chD k, s) ∧ s.map (·.toNat) = Fl.chS k := by
  have h := List.all_eq_true.1 cheat_all k (List.mem_range.2 hk)
  rw [decide_eq_false (by omega), Bool.false_or] at h
  unfold cheatB at h
  split at h
  · rename_i d s hr
    simp only [Bool.and_eq_true, decide_eq_true_eq] at h
    exact ⟨s, by rw [hr, h.1], h.2⟩
  · cases h
theorem cheat_slice {w : World} (h : VarReads Tryz.prog w "internal/strconv.leftcheats" Rows.laid_internal_strconv_leftcheats) : ∃ B : Nat × Nat, ChTab w B ∧ B.1 < w.heap.size := by
  obtain ⟨g', t', cs, fuel, p, h1, h2, h3, h4⟩ := h
  obtain rfl := Option.some.inj ((show Tryz.prog.globalNamed "internal/strconv.leftcheats" = some 17 by kernel_rfl).symm.trans h1)
  obtain rfl := Option.some.inj ((show (Tryz.prog.globals[17]?).map (·.type) = some 271 by kernel_rfl).symm.trans h2)
  rcases Go.Deep.open_slice_pairs Tryz.underlying271 Tryz.underlying270 (by kernel_rfl) rfl rfl (by kernel_rfl) (by kernel_rfl) h4 with ⟨_, hx⟩ | ⟨a, len, cap, m, n, V0, V1, D0, D1, P0, P1, hcs, _, hlc, _, hm, hx, hat⟩
  · simp [Rows.laid_internal_strconv_leftcheats, Go.Pinned.leftcheats] at hx
  · simp only [Rows.laid_internal_strconv_leftcheats, Go.Pinned.leftcheats, Prod.mk.injEq, DataW.slice.injEq] at hx
    obtain ⟨⟨hx1, hx2⟩, _⟩ := hx
    have hlen : len = 61 := by
      have := congrArg List.length hx1
      rw [List.length_map, List.length_map, List.length_range] at this
      have e : Go.Pinned.cheatRows.length = 61 := by kernel_rfl
      omega
    have hml : m - len = 0 := by
      have := congrArg List.length hx2
      simpa using this.symm
    have hmc : m = cap := by rw [hm]; exact if_pos rfl
    have hk : ∀ k, 0 < k → k < 61 → w.cell? (a.add (k * 2)) = some (.int .i64 (Fl.chD k : Int)) ∧ ∃ s : ByteArray, w.cell? (a.add (k * 2 + 1)) = some (.string s) ∧ s.data.toList.map (·.toNat) = Fl.chS k := fun k h0 hk => by
      obtain ⟨c0, c1, d0, d1⟩ := hat k (by omega)
      obtain ⟨s, r1, r2⟩ := cheat_at h0 hk
      have h6 := congrArg (fun l => l[k]?) hx1
      simp only [List.getElem?_map, r1, Option.map_some, List.getElem?_range (show k < len by omega)] at h6
      have h7 := Option.some.inj h6
      simp only [DataW.agg.injEq, List.cons.injEq, and_true] at h7
      obtain ⟨z, e1, e2, _⟩ := DataW.trod_int Tryz.underlying3 d0
      obtain ⟨S, f1, f2, _⟩ := DataW.trod_string Tryz.underlying9 d1
      simp only [List.cons.injEq, and_true] at e1 f1
      have e3 : D0 k = .lit (.int .i64 z) := congrArg Prod.fst e2
      have f3 : D1 k = .lit (.string S.data.toList) := congrArg Prod.fst f2
      rw [← h7.1] at e3
      rw [← h7.2] at f3
      simp only [DataW.lit.injEq, Lit.int.injEq, true_and, Lit.string.injEq] at e3 f3
      exact ⟨by rw [c0, e1, ← e3], S, by rw [c1, f1], by rw [← f3]; exact r2⟩
    obtain ⟨s1, s2⟩ := spot_none (hat 0 (by omega)).1
    obtain ⟨b, off, spot⟩ := a
    obtain rfl : spot = none := s1
    have hcell := World.var?_cell (show Tryz.prog.globalNamed "internal/strconv.leftcheats" = some 17 by kernel_rfl) h3 0
    have hc0 : cs[0]? = cs.toList[0]? := by simp
    rw [hc0, hcs] at hcell
    refine ⟨(b, off), ⟨?_, fun k h0 hk' => ?_⟩, s2⟩
    · rw [hcell, hlen, show cap = 61 by omega]; rfl
    · obtain ⟨a1, s, a2, a3⟩ := hk k h0 hk'
      rw [add_plain] at a1 a2
      exact ⟨a1, s, by rw [← Nat.add_assoc] at a2; exact a2, a3⟩
def powL : List Int := [1, 3, 6, 9, 13, 16, 19, 23, 26]
theorem powL_at : ∀ k, k < 9 → powL[k]? = some (Fl.powt k : Int) := by decide
theorem pow_tab {w : World} (h : VarReads Tryz.prog w "internal/strconv.powtab" (Rows.laid_internal_strconv_powtab : DataW Unit)) : ∃ B : Nat × Nat, PowTab w B ∧ B.1 < w.heap.size := by
  obtain ⟨g', t', cs, fuel, p, h1, h2, h3, h4⟩ := h
  obtain rfl := Option.some.inj ((show Tryz.prog.globalNamed "internal/strconv.powtab" = some 11 by kernel_rfl).symm.trans h1)
  obtain rfl := Option.some.inj ((show (Tryz.prog.globals[11]?).map (·.type) = some 135 by kernel_rfl).symm.trans h2)
  have hlaid : (Rows.laid_internal_strconv_powtab : DataW Unit) = .slice (powL.map fun b => .lit (.int .i64 b)) [] := rfl
  rw [hlaid] at h4
  have hc : Tryz.prog.cellsOf 3 = 1 := by kernel_rfl
  rcases DataW.trod_slice Tryz.underlying135 h4 with ⟨_, hx⟩ | ⟨a, len, cap, elems, rest, n, _, hcs, hx, _, hlc, _, hel, hat, hsp, _⟩
  · simp [powL] at hx
  · simp only [Prod.mk.injEq, DataW.slice.injEq] at hx
    obtain ⟨⟨hx1, hx2⟩, _⟩ := hx
    have hr0 : rest.length = 0 := by have := congrArg List.length hx2; simpa using this.symm
    have hcap := (hsp rfl).1
    have hlen : len = 9 := by
      have := congrArg List.length hx1
      rw [List.length_map, List.length_map, hel] at this
      have e : powL.length = 9 := rfl
      omega
    have hcell := World.var?_cell (show Tryz.prog.globalNamed "internal/strconv.powtab" = some 11 by kernel_rfl) h3 0
    have hc0 : cs[0]? = cs.toList[0]? := by simp
    rw [hc0, hcs] at hcell
    have hk : ∀ k, k < 9 → w.cell? (a.add k) = some (.int .i64 (Fl.powt k : Nat)) := fun k hk => by
      have h5 := hat k (by omega)
      rw [hc, Nat.mul_one] at h5
      have h6 := congrArg (fun l => l[k]?) hx1
      simp only [List.getElem?_map, powL_at k hk, Option.map_some] at h6
      obtain ⟨y, hy, hy2⟩ := Option.map_eq_some_iff.1 h6.symm
      rw [hy] at h5
      obtain ⟨cs', h7, h8⟩ := Option.bind_eq_some_iff.1 h5
      unfold World.cells? at h7
      rw [if_pos (Nat.zero_le _)] at h7
      obtain ⟨v, hv, hv2⟩ := Lib.mapM_at h7 0 0 (by simp)
      obtain ⟨b, e1, e2, _⟩ := DataW.trod_int Tryz.underlying3 h8
      subst e1 e2
      have hv' : v = .int .i64 b := by simpa using hv.symm
      simp only [DataW.lit.injEq, Lit.int.injEq, true_and] at hy2
      rw [← hy2, ← hv']
      have : (a.add k).add 0 = a.add k := by simp [Addr.add]
      rwa [this] at hv2
    obtain ⟨s1, s2⟩ := spot_none (hk 0 (by decide))
    obtain ⟨b, off, spot⟩ := a
    obtain rfl : spot = none := s1
    refine ⟨(b, off), ⟨?_, fun k hk' => ?_⟩, s2⟩
    · rw [hcell, hlen, show cap = 9 by omega]; rfl
    · have := hk k hk'
      rwa [add_plain] at this
theorem laid4_of {w : World} (h : laidMetH Tryz.prog laidL2 w) (hS : w.ShapedOpen Tryz.prog) : ∃ B C D, Laid4 w B C D := by
  obtain ⟨B, hB⟩ := laid2_of h hS
  rw [laid_plain2] at h
  obtain ⟨C, c1, c2⟩ := cheat_slice (laidMet.reads h (by simp [laidL2, Rows.binaryDecimalsRow]))
  obtain ⟨D, d1, d2⟩ := pow_tab (laidMet.reads h (by simp [laidL2, Rows.binaryDecimalsRow]))
  exact ⟨B, C, D, hB, info_all (laidMet.reads h (by simp [laidL2, Rows.binaryDecimalsRow])), c1, d1, hB.size, c2, d2⟩
end Go.Proofs.YtjapgpmoojfhnaaGreatDoor
