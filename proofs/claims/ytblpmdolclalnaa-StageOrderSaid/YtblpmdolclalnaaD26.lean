/- The law StageMaps: walked whole, goroutine 0 coming to its return with true; the run. Goroutine 0 alone: the pieces of the walk of the law StageChains, from call to call; the loop that makes its functions. Made by gen_lak.py. An array of 127 values, spelt out. No condition. An array of 103 values, spelt out. No condition. A region that draws its order: what waits for what, what may come next: definitions and small laws. A child in company: a region that draws its order and makes memory: whatever the order, the same values come. Conditions: each operation goes on as soon as those that it waits for are done. The closure of StageOrder (f18) as the function of a child of Chain: it keeps what it met, in order, in its own place of the shared row. The closure of StageOrder (f18): its region in every order; its contract as the function of a child of Chain. The closure of StageOrder (f18) as the function of a child of Chain: its contract. -/
import Derived.Test.YtblpmdolclalnaaD11
import Derived.Test.YtblpmdolclalnaaD12
import Derived.Test.YtblpmdolclalnaaD23
import Derived.Test.YtblpmdolclalnaaD25
namespace Go.Proofs.Ytblpmdolclalnaa
open Go.Conc

/-- Nothing is shunned at the beginning. -/
abbrev none0 : Nat → Prop := fun _ => False
theorem s66_none (w : World) : S66 none0 w := fun _ h => h.elim
/-- Goroutine 0 at a law's return. -/
def LawEnd (f n r : Nat) (w : World) (S : Nat → Prop) (g : Goroutine) (w' : World) : Prop :=
  Keep none0 w S w' ∧ ∃ T k, T.size = n ∧ T[r]? = some (.bool true) ∧ g = G { (base f).at ⟨T, []⟩ k with mode := .returning } []
/-- What a law leaves. -/
def PostL (w : World) (v : Value) (w' : World) : Prop := v = .bool true ∧ w'.os = w.os ∧ w'.tape = w.tape ∧ w'.output = w.output ∧ w.heap.size ≤ w'.heap.size ∧ ∀ b, b < w.heap.size → w'.heap[b]? = w.heap[b]?
theorem law_ends {f n r : Nat} {fn : Func} {w : World} {a : Goroutine} (hi : Try.prog.inits.idxOf? f = none) (hf : Try.prog.funcs[f]? = some fn) (hr : fn.results = #[.tmp r]) (h : Lone Try.prog w.heap.size (LawEnd f n r w) none0 a w) : Ends Try.prog (PostL w) (crowd #[a] w none) #[] := by
  refine Lone.ends (N0 := w.heap.size) (Shun := none0) (a := a) (w := w) (h.imp fun S g w' _ hE d => ?_) rfl (rest_start Try.prog a w)
  obtain ⟨hk, T, k, _, hv, rfl⟩ := hE
  exact ⟨rfl, _, #[], ended1 rfl hi hf hr hv, by simp, rfl, hk.out.os, hk.out.tape, hk.out.out, hk.out.size, fun b hb => hk.out.blk b hb fun _ h => h⟩

end Go.Proofs.Ytblpmdolclalnaa

namespace Go.Proofs.Ytblpmdolclalnaa
open Go.Conc Go.RowKit Go.Conc.Lib Go.ConcR.Gen Go.ConcN.Gen

theorem oneT37 : OneT Try.prog 37 28 := by
  have h0 : (Try.prog.info? 28).isSome = true := by kernel_rfl
  have h1 : ((Try.prog.info? 28).get h0).zero.isSome = true := by kernel_rfl
  exact ⟨Try.underlying37, (Try.prog.info? 28).get h0, ((Try.prog.info? 28).get h0).zero.get h1, by simp, by simp, by kernel_rfl, by kernel_rfl, of_decide_eq_true (by kernel_rfl)⟩
/-- The functions laid so far: their boxes kbs, their slice vf. -/
structure FL (Shun : Nat → Prop) (w : World) (S : Nat → Prop) (codes : List Int) (kbs : List Nat) (vf : Value) (w₁ : World) : Prop where
  keep : Keep Shun w S w₁
  row : w₁.ownsRow 0 28 1 vf kbs.length (kbs.map fnV)
  rowO : ∀ g, vf.ownBlock = some g → w.heap.size ≤ g
  box : ∀ (s k : Nat), kbs[s]? = some k → Cel S k (.int .u8 (codes.getD s 0)) w₁
  nz : ∀ g, vf.ownBlock = some g → 0 < kbs.length
structure FX (Shun : Nat → Prop) (w : World) (S : Nat → Prop) (codes : List Int) (kbs : List Nat) (vf : Value) (bx kb : Nat) (c : Int) (w₁ : World) : Prop where
  j : FL Shun w S codes kbs vf w₁
  cell : w₁.cell? ⟨bx, 0, none⟩ = some (fnV kb)
  low : ¬ S bx
  new : Cel S kb (.int .u8 c) w₁
section
variable {Shun S S' : Nat → Prop} {w w₁ w₂ : World} {codes : List Int} {kbs : List Nat} {vf : Value} {bx kb : Nat} {c : Int}
theorem FL.steady : Steady (FL Shun w S codes kbs vf) := fun _w d h => ⟨h.keep.at d, h.row, h.rowO, h.box, h.nz⟩
theorem FX.steady : Steady (FX Shun w S codes kbs vf bx kb c) := fun w d h => ⟨FL.steady w d h.j, h.cell, h.low, h.new⟩
theorem FL.rowS (h : FL Shun w S codes kbs vf w₁) : ∀ g, vf.ownBlock = some g → ¬ S g := fun g hg hs => by
  obtain ⟨cs, hc⟩ := row_tp h.row hg
  obtain ⟨cs', hc'⟩ := h.keep.s66 g hs
  rw [hc] at hc'
  cases hc'
theorem row_keep {t : TypeId} {n : Nat} {xs : List Value} (hr : w₁.ownsRow 0 t 1 vf n xs) (ht : t ≠ 66) (h66 : S66 S w₁) (k : Keep S w₁ S' w₂) : w₂.ownsRow 0 t 1 vf n xs := ownsRow_of hr fun g hg => by
  obtain ⟨cs, hc⟩ := row_tp hr hg
  refine k.out.blk g (Array.getElem?_eq_some_iff.1 hc).1 fun _ hs => ?_
  obtain ⟨cs', hc'⟩ := h66 g hs
  rw [hc] at hc'
  cases hc'
  exact ht rfl
theorem FL.next (h : FL Shun w S codes kbs vf w₁) (k : Keep S w₁ S' w₂) : FL Shun w S' codes kbs vf w₂ := ⟨h.keep.trans k, row_keep h.row (by decide) h.keep.s66 k, h.rowO, fun s kk hk => (h.box s kk hk).keep k, h.nz⟩
theorem cel_grown {b n : Nat} {u : Value} {ks : List Nat} (h : Cel S b (.int .u8 c) w₁) (hgr : w₁.grownBy w₂ u.ownBlock) (hr : w₁.ownsRow 0 28 1 u n (ks.map fnV)) (nz : ∀ g, u.ownBlock = some g → 0 < n) : Cel S b (.int .u8 c) w₂ := ⟨h.1, (cell?_eq (hgr.block b (cell_lt h.2) fun e => by
  have hn := nz b e.symm
  have hl := hr.1
  rcases hr.2 with ⟨e', _⟩ | ⟨g, cap, cur, e', _⟩
  · rw [e'] at e; cases e
  · rw [e'] at e hr
    cases e
    have h0 : (ks.map fnV)[0]? = some (fnV (ks[0]'(by simp at hl; omega))) := by rw [List.getElem?_map, List.getElem?_eq_getElem (by simp at hl; omega)]; rfl
    have := row_get hr h0
    rw [h.2] at this
    cases this) 0).trans h.2⟩
theorem FX.appended {v' : Value} (h : FX Shun w S codes kbs vf bx kb c w₁) (hx : codes[kbs.length]? = some c) (hgr : w₁.grownBy w₂ vf.ownBlock) (hrow : w₂.ownsRow 0 28 1 v' (kbs.length + 1) (kbs.map fnV ++ [fnV kb])) (hown : ∀ g, v'.ownBlock = some g → vf.ownBlock = some g ∨ (w₁.heap.size ≤ g ∧ g < w₂.heap.size)) : FL Shun w S codes (kbs ++ [kb]) v' w₂ := by
  refine ⟨h.j.keep.grown hgr h.j.row (by decide) h.j.rowO, by simpa using hrow, fun g hg => ?_, fun s k hk => ?_, fun g hg => by simp⟩
  · rcases hown g hg with e | e
    · exact h.j.rowO g e
    · exact Nat.le_trans h.j.keep.out.size e.1
  · rcases Nat.lt_or_ge s kbs.length with hs | hs
    · rw [List.getElem?_append_left hs] at hk
      exact cel_grown (h.j.box s k hk) hgr h.j.row h.j.nz
    · rw [List.getElem?_append_right hs] at hk
      have hs' : s = kbs.length := by
        rcases Nat.eq_zero_or_pos (s - kbs.length) with x | x
        · omega
        · rw [List.getElem?_eq_none (by simp; omega)] at hk; cases hk
      subst hs'
      simp only [Nat.sub_self, List.getElem?_cons_zero, Option.some.injEq] at hk
      subst hk
      rw [List.getD_eq_getElem?_getD, hx]
      exact cel_grown h.new hgr h.j.row h.j.nz
end

section
variable {Shun S : Nat → Prop} {w w₁ : World} {cs : List Frame} {kb kl i : Nat} {v1 v2 vf : Value} {fa fb fc ff : Option Addr} {ca cb cc na nb nc cf nf : Nat} {c : Int} {codes : List Int} {kbs : List Nat}
end
end Go.Proofs.Ytblpmdolclalnaa

namespace Go.Proofs.Ytblpmdolclalnaa
open Go.Conc
theorem array_of (T : Array Value) : T = ((List.range T.size).map fun i => T.getD i undef).toArray := by
  refine Array.ext_getElem? fun i => ?_
  rcases Nat.lt_or_ge i T.size with h | h
  · simp [h]
  · simp [h]
end Go.Proofs.Ytblpmdolclalnaa

namespace Go.Proofs.Ytblpmdolclalnaa
open Go.Conc
theorem array103 (T : Array Value) (h : T.size = 103) : ∃ v : Nat → Value, T = #[v 0, v 1, v 2, v 3, v 4, v 5, v 6, v 7, v 8, v 9, v 10, v 11, v 12, v 13, v 14, v 15, v 16, v 17, v 18, v 19, v 20, v 21, v 22, v 23, v 24, v 25, v 26, v 27, v 28, v 29, v 30, v 31, v 32, v 33, v 34, v 35, v 36, v 37, v 38, v 39, v 40, v 41, v 42, v 43, v 44, v 45, v 46, v 47, v 48, v 49, v 50, v 51, v 52, v 53, v 54, v 55, v 56, v 57, v 58, v 59, v 60, v 61, v 62, v 63, v 64, v 65, v 66, v 67, v 68, v 69, v 70, v 71, v 72, v 73, v 74, v 75, v 76, v 77, v 78, v 79, v 80, v 81, v 82, v 83, v 84, v 85, v 86, v 87, v 88, v 89, v 90, v 91, v 92, v 93, v 94, v 95, v 96, v 97, v 98, v 99, v 100, v 101, v 102] := by
  have e := array_of T
  rw [h] at e
  exact ⟨fun i => T.getD i undef, e.trans rfl⟩
end Go.Proofs.Ytblpmdolclalnaa

namespace Go.Proofs.Ytblpmdolclalnaa
open Go.Conc
theorem all_done {n : Nat} {L : Array Bool} (hs : L.size = n) (hc : ((List.range n).filter fun k => L.getD k false).length = n) : L = Array.replicate n true := by
  have h1 : ((List.range n).filter fun k => L.getD k false) = List.range n := List.Sublist.eq_of_length List.filter_sublist (by simpa using hc)
  refine Array.ext (by simp [hs]) fun i h3 h4 => ?_
  have h2 : i ∈ (List.range n).filter fun k => L.getD k false := by rw [h1]; simp; omega
  have := (List.mem_filter.1 h2).2
  simpa [Array.getD_eq_getD_getElem?, h3] using this
/-- Operation i waits for operation j. -/
def needs (ops : Array Oper) (i j : Nat) : Bool := ((ops[i]?).map fun o => o.after.toList.any fun e => e.on == j && Region.binds .any e).getD false
def orderly (ops : Array Oper) : Bool := (List.range ops.size).all fun i => ((ops[i]?).map fun o => o.after.toList.all fun e => !Region.binds .any e || decide (e.on < i)).getD false
theorem lin_next {ops : Array Oper} {L : Array Bool} {fuel t : Nat} (hord : orderly ops = true) (hs : L.size = ops.size) (hc : ((List.range ops.size).filter fun k => L.getD k false).length + (fuel + 1) = ops.size) :
    ∃ i t', i < ops.size ∧ L.getD i false = false ∧ (∀ j, needs ops i j = true → L.getD j false = true) ∧ lin ops (fuel + 1) t L = i :: lin ops fuel t' (L.setIfInBounds i true) := by
  have ho : ∀ (i : Nat) (o : Oper), ops[i]? = some o → ∀ e ∈ o.after, Region.binds .any e = true → e.on < i := by
    intro i o h e he hb
    have hi : i < ops.size := (Array.getElem?_eq_some_iff.1 h).1
    have := List.all_eq_true.1 hord i (by simpa using hi)
    rw [h] at this
    simp only [Option.map_some, Option.getD_some, List.all_eq_true] at this
    have h2 := this e (by simpa using he)
    rw [hb] at h2
    exact of_decide_eq_true (by simpa using h2)
  have hne : Region.ready .any ops L ≠ [] := by
    obtain ⟨i, hi, hLi, hmin⟩ : ∃ i, i < ops.size ∧ L.getD i false = false ∧ ∀ k, k < i → L.getD k false = true := by
      have hex : ∃ i, i < ops.size ∧ L.getD i false = false := by
        refine Classical.byContradiction fun hno => ?_
        have : ((List.range ops.size).filter fun k => L.getD k false) = List.range ops.size := List.filter_eq_self.2 fun k hk => by
          cases hx : L.getD k false with
          | true => rfl
          | false => exact absurd ⟨k, by simpa using hk, hx⟩ hno
        rw [this] at hc
        simp at hc
      have key : ∀ N, (∃ i, i < N ∧ i < ops.size ∧ L.getD i false = false) → ∃ i, i < ops.size ∧ L.getD i false = false ∧ ∀ k, k < i → L.getD k false = true := by
        intro N
        induction N with
        | zero => rintro ⟨i, hi, _⟩; omega
        | succ N ihN =>
          rintro ⟨i, hi, hi', hL⟩
          by_cases hx : ∃ k, k < N ∧ k < ops.size ∧ L.getD k false = false
          · exact ihN hx
          · refine ⟨i, hi', hL, fun k hk => ?_⟩
            cases hy : L.getD k false with
            | true => rfl
            | false => exact absurd ⟨k, by omega, by omega, hy⟩ hx
      obtain ⟨i, hi, hL⟩ := hex
      exact key (i + 1) ⟨i, by omega, hi, hL⟩
    have hmem : i ∈ Region.ready .any ops L := by
      unfold Region.ready
      refine List.mem_filter.2 ⟨by simpa using hi, ?_⟩
      have h1 : ops[i]? = some ops[i] := Array.getElem?_eq_getElem hi
      have hLt : L.getD i true = false := by
        have hlt : i < L.size := by omega
        simpa [Array.getD_eq_getD_getElem?, hlt] using hLi
      rw [hLt, h1]
      simp only [Bool.not_false, Bool.true_and, Option.map_some, Option.getD_some, Array.all_eq_true_iff_forall_mem]
      intro e he
      cases hb : Region.binds .any e with
      | false => rfl
      | true =>
        rw [hmin e.on (ho i _ h1 e he hb)]
        rfl
    exact fun h0 => by rw [h0] at hmem; cases hmem
  obtain ⟨i, hi, t', e⟩ := lin_succ (fuel := fuel) rfl hne t
  unfold Region.ready at hi
  obtain ⟨h1, h2⟩ := List.mem_filter.1 hi
  have hin : i < ops.size := by simpa using h1
  have h3 : ops[i]? = some ops[i] := Array.getElem?_eq_getElem hin
  rw [h3] at h2
  simp only [Option.map_some, Option.getD_some, Bool.and_eq_true, Bool.not_eq_true', Array.all_eq_true_iff_forall_mem] at h2
  refine ⟨i, t', hin, ?_, fun j hj => ?_, e⟩
  · have hlt : i < L.size := by omega
    have := h2.1
    simpa [Array.getD_eq_getD_getElem?, hlt] using this
  · unfold needs at hj
    rw [h3] at hj
    simp only [Option.map_some, Option.getD_some, List.any_eq_true] at hj
    obtain ⟨m, hm, hx⟩ := hj
    simp only [Bool.and_eq_true, beq_iff_eq] at hx
    have := h2.2 m (by simpa using hm)
    rw [hx.2, hx.1] at this
    simpa using this
theorem fillD_congr {T0 : Array Value} {d : Nat → Nat} {val val' : Nat → Value} {D : Array Bool} (h : ∀ j, D.getD j false = true → val' j = val j) : ∀ n, fillD T0 d val' D n = fillD T0 d val D n
  | 0 => rfl
  | n + 1 => by
    rw [fillD_succ, fillD_succ, fillD_congr h n]
    split
    · rename_i hd
      rw [h n hd]
    · rfl
theorem op_at {ops : Array Oper} {i : Nat} {g : Option (Nat × Bool)} {d : Option Tmp} {op : Op} {ty : TypeId} (h : (ops[i]?).map (fun o => (o.guard, o.dst, o.op, o.type)) = some (g, d, op, ty)) : ∃ pos after, ops[i]? = some ⟨d, op, ty, pos, after, g⟩ := by
  rcases hx : ops[i]? with _ | ⟨d', op', ty', pos, after, g'⟩
  · rw [hx] at h; cases h
  · rw [hx] at h
    simp only [Option.map_some, Option.some.injEq, Prod.mk.injEq] at h
    obtain ⟨rfl, rfl, rfl, rfl⟩ := h
    exact ⟨pos, after, rfl⟩
end Go.Proofs.Ytblpmdolclalnaa

namespace Go.Proofs.Ytblpmdolclalnaa
open Go.Conc
/-- What is asked of each operation; c steps suffice for one. -/
structure DrawG (P : Program) (main : Bool) (own : Nat → Prop) (R : World → World → Prop) (D : World → World → Array Event → Prop) (Stop : Goroutine → World → Prop) (c : Nat) {Γ : Type} (b : Frame) (ops : Array Oper) (T0 : Array Value) (d : Nat → Nat) (val : Γ → Nat → Value) (I : Array Bool → Γ → World → Prop) (k : List Item) (cs : List Frame) : Prop where
  ord : orderly ops = true
  inj : ∀ a c, a < ops.size → c < ops.size → d a = d c → a = c
  step : ∀ (i : Nat) (L : Array Bool) (γ : Γ) (w : World) (rest : List Nat) (T : Array Value) (N : Nat), i < ops.size → L.size = ops.size → L.getD i false = false → (∀ j, needs ops i j = true → L.getD j false = true) → (∀ a c, L.getD a false = true → needs ops a c = true → L.getD c false = true) →
    (∀ j, j < ops.size → L.getD j false = true → d j < T0.size → T[d j]? = some (val γ j)) → (∀ m, (∀ j, j < ops.size → d j ≠ m) → T[m]? = T0[m]?) → T.size = T0.size → I L γ w →
    (∀ γ' w', (∀ j, L.getD j false = true → val γ' j = val γ j) → I (L.setIfInBounds i true) γ' w' → Goo P main own R D Stop N (G (b.at ⟨T.setIfInBounds (d i) (val γ' i), []⟩ (.inRegion ops rest :: k)) cs) w') →
    Goo P main own R D Stop (N + c) (G (b.at ⟨T, []⟩ (.inRegion ops (i :: rest) :: k)) cs) w
section
variable {P : Program} {main : Bool} {own : Nat → Prop} {R : World → World → Prop} {D : World → World → Array Event → Prop} {Stop : Goroutine → World → Prop} {c n : Nat} {Γ : Type} {b : Frame} {ops : Array Oper} {T0 : Array Value} {d : Nat → Nat} {val : Γ → Nat → Value} {I : Array Bool → Γ → World → Prop} {k : List Item} {cs : List Frame} {w : World}
theorem goo_lins (hR : DrawG P main own R D Stop c b ops T0 d val I k cs) (hend : ∀ γ w, I (Array.replicate ops.size true) γ w → Goo P main own R D Stop n (G (b.at ⟨fillD T0 d (val γ) (Array.replicate ops.size true) ops.size, []⟩ (.inRegion ops [] :: k)) cs) w) :
    ∀ (fuel : Nat) (L : Array Bool) (t : Nat) (γ : Γ) (w : World), L.size = ops.size → ((List.range ops.size).filter fun k => L.getD k false).length + fuel = ops.size → (∀ a c, L.getD a false = true → needs ops a c = true → L.getD c false = true) → I L γ w →
      Goo P main own R D Stop (n + fuel * c) (G (b.at ⟨fillD T0 d (val γ) L ops.size, []⟩ (.inRegion ops (lin ops fuel t L) :: k)) cs) w := by
  intro fuel
  induction fuel with
  | zero =>
    intro L t γ w hs hc hcl hI
    rw [all_done hs hc] at hI ⊢
    rw [lin_zero, Nat.zero_mul]
    exact hend γ w hI
  | succ fuel ih =>
    intro L t γ w hs hc hcl hI
    obtain ⟨i, t', hi, hL, hn, e⟩ := lin_next hR.ord hs hc (t := t)
    rw [e, Nat.succ_mul, ← Nat.add_assoc]
    refine hR.step i L γ w _ _ _ hi hs hL hn hcl (fun j hj hLj hlow => fillD_at hLj hlow _ (fun a ha e => hR.inj a j ha hj e) hj) (fun m hm => fillD_else _ fun j hj _ => hm j hj) (fillD_size _) hI fun γ' w' hv hI' => ?_
    have e2 : (fillD T0 d (val γ) L ops.size).setIfInBounds (d i) (val γ' i) = fillD T0 d (val γ') (L.setIfInBounds i true) ops.size := by
      rw [← fillD_congr hv, fillD_step hR.inj hi hs hL]
    rw [e2]
    refine ih _ t' γ' w' (by simp [hs]) (by rw [count_set hi hs hL]; omega) (fun a c ha hac => ?_) hI'
    rw [getD_set] at ha ⊢
    split
    · rfl
    · split at ha
      · rename_i h1
        rw [h1.1] at hac
        exact hn c hac
      · exact hcl a c ha hac
theorem no_done (n j : Nat) : (Array.replicate n false).getD j false = false := by
  simp only [Array.getD_eq_getD_getElem?, Array.getElem?_replicate]
  split <;> rfl
theorem goo_drawn (hm : P.follows .mixedOrders = true) (hd : LetsDraw D) {id : Nat} {γ : Γ} (hR : DrawG P main own R D Stop c b ops T0 d val I k cs) (hI : ∀ w₁, R w w₁ → I (Array.replicate ops.size false) γ { w₁ with drawn := w₁.drawn + 1 })
    (hend : ∀ γ w, I (Array.replicate ops.size true) γ w → Goo P main own R D Stop n (G (b.at ⟨fillD T0 d (val γ) (Array.replicate ops.size true) ops.size, []⟩ (.inRegion ops [] :: k)) cs) w) :
    Goo P main own R D Stop (n + ops.size * c + 1) (G (b.at ⟨T0, []⟩ (.code (.region id ops true) :: k)) cs) w := by
  refine goo_draw hm hd fun w₁ h₁ t => ?_
  have e : fillD T0 d (val γ) (Array.replicate ops.size false) ops.size = T0 := by
    refine Array.ext_getElem? fun j => fillD_else _ fun i hi hx => ?_
    rw [no_done] at hx; cases hx
  have := goo_lins hR hend ops.size (Array.replicate ops.size false) t γ _ (by simp) (by
    have : ((List.range ops.size).filter fun k => (Array.replicate ops.size false).getD k false) = [] := List.filter_eq_nil_iff.2 fun a _ => by rw [no_done]; simp
    rw [this]; simp) (fun a c ha => by rw [no_done] at ha; cases ha) (hI w₁ h₁)
  rw [e] at this
  exact this
end
end Go.Proofs.Ytblpmdolclalnaa

namespace Go.Proofs.Ytblpmdolclalnaa
open Go.Conc Go.RowKit Go.Conc.Lib Go.ConcR.Gen Go.ConcN.Gen
open Go.ConcR (WgAt KK stA smA rd wr mk DC0)
open Go.ConcN (WgLive)

noncomputable def body18 : Code := Try.f18.body.getD .skip
noncomputable def ops18 : Array Oper := cO (cF (cS body18))
/-- The closure's value: em the box of the row, ei the box of its number. -/
def stV (em ei : Nat) : Value := .func (.func 18) #[] #[ptr em, ptr ei]
def d18 (k : Nat) : Nat := ([5, 6, 7, 8, 9, 10, 11, 12, 13, 14, 1000] : List Nat).getD k 0
def val18 (bm s nn : Nat) (v : Value) (x : Int) (γ : Nat × Value) : Nat → Value
  | 0 => .slice (some ⟨bm, 0, none⟩) nn nn
  | 1 => .int .i64 s
  | 2 => .slice (some ⟨bm, 0, none⟩) nn nn
  | 3 => .int .i64 s
  | 4 => .pointer (some ⟨bm, s, none⟩)
  | 5 => v
  | 6 => .int .i64 x
  | 7 => .slice (some ⟨γ.1, 0, none⟩) 1 1
  | 8 => γ.2
  | 9 => .pointer (some ⟨bm, s, none⟩)
  | _ => undef
theorem op18_0 : (ops18[0]?).map (fun o => (o.guard, o.dst, o.op, o.type)) = some (none, some 5, .load 41 (.tmp 1), 41) := by kernel_rfl
theorem op18_1 : (ops18[1]?).map (fun o => (o.guard, o.dst, o.op, o.type)) = some (none, some 6, .load 3 (.tmp 2), 3) := by kernel_rfl
theorem op18_2 : (ops18[2]?).map (fun o => (o.guard, o.dst, o.op, o.type)) = some (none, some 7, .load 41 (.tmp 1), 41) := by kernel_rfl
theorem op18_3 : (ops18[3]?).map (fun o => (o.guard, o.dst, o.op, o.type)) = some (none, some 8, .load 3 (.tmp 2), 3) := by kernel_rfl
theorem op18_4 : (ops18[4]?).map (fun o => (o.guard, o.dst, o.op, o.type)) = some (none, some 9, .indexAddr 41 (.tmp 7) (.tmp 8), 0) := by kernel_rfl
theorem op18_5 : (ops18[5]?).map (fun o => (o.guard, o.dst, o.op, o.type)) = some (none, some 10, .load 22 (.tmp 9), 22) := by kernel_rfl
theorem op18_6 : (ops18[6]?).map (fun o => (o.guard, o.dst, o.op, o.type)) = some (none, some 11, .move (.tmp 0), 3) := by kernel_rfl
theorem op18_7 : (ops18[7]?).map (fun o => (o.guard, o.dst, o.op, o.type)) = some (none, some 12, .buildSlice 22 1 #[(0, .tmp 11)], 22) := by kernel_rfl
theorem op18_8 : (ops18[8]?).map (fun o => (o.guard, o.dst, o.op, o.type)) = some (none, some 13, .call { callee := .builtin .append, args := #[.tmp 10, .tmp 12], argTypes := #[22, 22] }, 22) := by kernel_rfl
theorem op18_9 : (ops18[9]?).map (fun o => (o.guard, o.dst, o.op, o.type)) = some (none, some 14, .indexAddr 41 (.tmp 5) (.tmp 6), 0) := by kernel_rfl
theorem op18_10 : (ops18[10]?).map (fun o => (o.guard, o.dst, o.op, o.type)) = some (none, none, .store 22 (.tmp 14) (.tmp 13), 0) := by kernel_rfl

section
variable {P : Program} {main : Bool} {own : Nat → Prop} {R : World → World → Prop} {D : World → World → Array Event → Prop} {Stop : Goroutine → World → Prop} {N : Nat} {b : Frame} {ops : Array Oper} {T : Array Value} {k : List Item} {cs : List Frame} {w : World} {i t : Nat} {o : Oper} {rest : List Nat} {u : Value}
theorem goo_pure (ho : ops[i]? = some o) (hg : o.guard = none) (hd : o.dst = some t) (hkd : b.kind ≠ .early) (hr : ∀ w₁, R w w₁ → (execOp (⟨T, []⟩ : Act).eval o).run P w₁ = .ok (.value u) w₁ ∧ D w₁ w₁ (listed P b.fn ⟨T, []⟩ o w₁))
    (hgo : ∀ w₁, R w w₁ → Goo P main own R D Stop N (G (b.at ⟨T.setIfInBounds t u, []⟩ (.inRegion ops rest :: k)) cs) w₁) : Goo P main own R D Stop (N + 1) (G (b.at ⟨T, []⟩ (.inRegion ops (i :: rest) :: k)) cs) w :=
  Goo.step rfl fun w₁ h₁ => by
    obtain ⟨h2, h3⟩ := hr w₁ h₁
    rw [stepG_value ho (by simp [Region.wanted, hg]) hkd h2]
    refine ⟨h3, fun _ => ?_⟩
    have e : (⟨T, []⟩ : Act).put o.dst u = ⟨T.setIfInBounds t u, []⟩ := by rw [hd]; rfl
    rw [e]
    exact hgo w₁ h₁
end

/-- What stage s holds when it has had xs. -/
structure OX (own : Nat → Prop) (em ei bm s nn : Nat) (xs : List Value) (w : World) : Prop where
  me : w.cell? ⟨em, 0, none⟩ = some (.slice (some ⟨bm, 0, none⟩) nn nn)
  ec : ∃ cs : Array Value, w.heap[em]? = some (.cells cs 41 (0, 0))
  ix : w.cell? ⟨ei, 0, none⟩ = some (.int .i64 s)
  ic : ∃ cs : Array Value, w.heap[ei]? = some (.cells cs 3 (0, 0))
  lt : s < nn
  bc : ∃ cs : Array Value, w.heap[bm]? = some (.cells cs 22 (0, 0))
  row : ∃ v, w.cell? ⟨bm, s, none⟩ = some v ∧ w.ownsRow 0 3 1 v xs.length xs ∧ ∀ g, v.ownBlock = some g → own g ∧ g ≠ ei ∧ 0 < xs.length
  ints : ∀ x ∈ xs, ∃ n, x = .int .i64 n
/-- .. within its region: the operations of L are done. -/
structure OI (own : Nat → Prop) (Rd : Nat → Prop) (Wg em ei bm s nn : Nat) (v : Value) (xs : List Value) (x : Int) (w₀ : World) (L : Array Bool) (γ : Nat × Value) (w : World) : Prop where
  live : WgLive 66 Wg w
  me : w.cell? ⟨em, 0, none⟩ = some (.slice (some ⟨bm, 0, none⟩) nn nn)
  ec : ∃ cs : Array Value, w.heap[em]? = some (.cells cs 41 (0, 0))
  ix : w.cell? ⟨ei, 0, none⟩ = some (.int .i64 s)
  ic : ∃ cs : Array Value, w.heap[ei]? = some (.cells cs 3 (0, 0))
  lt : s < nn
  bc : ∃ cs : Array Value, w.heap[bm]? = some (.cells cs 22 (0, 0))
  cell : w.cell? ⟨bm, s, none⟩ = some (if L.getD 10 false = true then γ.2 else v)
  box : L.getD 7 false = true → L.getD 8 false = false → w.cell? ⟨γ.1, 0, none⟩ = some (.int .i64 x) ∧ own γ.1 ∧ ∃ cs : Array Value, w.heap[γ.1]? = some (.cells cs 3 (0, 0))
  row : L.getD 8 false = false → w.ownsRow 0 3 1 v xs.length xs ∧ ∀ g, v.ownBlock = some g → own g ∧ g ≠ ei ∧ 0 < xs.length
  row' : L.getD 8 false = true → w.ownsRow 0 3 1 γ.2 (xs.length + 1) (xs ++ [.int .i64 x]) ∧ ∀ g, γ.2.ownBlock = some g → own g ∧ g ≠ ei
  ints : ∀ y ∈ xs, ∃ n, y = .int .i64 n
  kept : ∀ e u, Rd e → heldV u → w₀.cell? ⟨e, 0, none⟩ = some u → w.cell? ⟨e, 0, none⟩ = some u
section
variable {own : Nat → Prop} {Got : Cells} {Rd : Nat → Prop} {Wg em ei bm s nn : Nat} {xs : List Value} {v : Value} {x : Int} {w₀ w w₁ : World} {L : Array Bool} {γ : Nat × Value}
theorem typ_rely {b : Nat} {t : TypeId} (h : ∃ cs : Array Value, w.heap[b]? = some (.cells cs t (0, 0))) (r : KR 66 Wg own Got Rd w w₁) : ∃ cs : Array Value, w₁.heap[b]? = some (.cells cs t (0, 0)) := by
  obtain ⟨cs, hc⟩ := h
  obtain ⟨cs', hc', _⟩ := r.form _ _ _ _ hc
  exact ⟨cs', hc'⟩
theorem row_rely {n : Nat} {u : Value} {ys : List Value} (h : w.ownsRow 0 3 1 u n ys) (hm : ∀ g, u.ownBlock = some g → own g) (r : KR 66 Wg own Got Rd w w₁) : w₁.ownsRow 0 3 1 u n ys := ownsRow_of h fun g hg => r.blk g (h.lt g hg).2 fun _ => .inl (hm g hg)
theorem OX.rely (hn : Got bm s ∧ Rd em ∧ Rd ei) (h : OX own em ei bm s nn xs w) (r : KR 66 Wg own Got Rd w w₁) : OX own em ei bm s nn xs w₁ := by
  obtain ⟨v, h1, h2, h3⟩ := h.row
  exact ⟨(r.cell em 0 (cell_lt h.me) (.inr (.inr hn.2.1))).trans h.me, typ_rely h.ec r, (r.cell ei 0 (cell_lt h.ix) (.inr (.inr hn.2.2))).trans h.ix, typ_rely h.ic r, h.lt, typ_rely h.bc r,
    ⟨v, (r.cell bm s (cell_lt h1) (.inr (.inl hn.1))).trans h1, row_rely h2 (fun g hg => (h3 g hg).1) r, h3⟩, h.ints⟩
theorem OI.rely (hn : Got bm s ∧ Rd em ∧ Rd ei) (h : OI own Rd Wg em ei bm s nn v xs x w₀ L γ w) (r : KR 66 Wg own Got Rd w w₁) : OI own Rd Wg em ei bm s nn v xs x w₀ L γ w₁ :=
  ⟨r.live h.live, (r.cell em 0 (cell_lt h.me) (.inr (.inr hn.2.1))).trans h.me, typ_rely h.ec r, (r.cell ei 0 (cell_lt h.ix) (.inr (.inr hn.2.2))).trans h.ix, typ_rely h.ic r, h.lt, typ_rely h.bc r,
    (r.cell bm s (cell_lt h.cell) (.inr (.inl hn.1))).trans h.cell, fun a b => let ⟨h1, h2, h3⟩ := h.box a b; ⟨(r.cell γ.1 0 (cell_lt h1) (.inl h2)).trans h1, h2, typ_rely h3 r⟩,
    fun a => let ⟨h1, h2⟩ := h.row a; ⟨row_rely h1 (fun g hg => (h2 g hg).1) r, h2⟩, fun a => let ⟨h1, h2⟩ := h.row' a; ⟨row_rely h1 (fun g hg => (h2 g hg).1) r, h2⟩, h.ints,
    fun e u he hu hv => (r.cell e 0 (cell_lt (h.kept e u he hu hv)) (.inr (.inr he))).trans (h.kept e u he hu hv)⟩
theorem OI.pure (h : OI own Rd Wg em ei bm s nn v xs x w₀ L γ w) {i : Nat} (hi : i ≠ 7 ∧ i ≠ 8 ∧ i ≠ 10) : OI own Rd Wg em ei bm s nn v xs x w₀ (L.setIfInBounds i true) γ w := by
  have e : ∀ j, i ≠ j → (L.setIfInBounds i true).getD j false = L.getD j false := fun j hj => by rw [getD_set, if_neg (fun e => hj e.1.symm)]
  have e7 := e 7 hi.1
  have e8 := e 8 hi.2.1
  have e10 := e 10 hi.2.2
  obtain ⟨a1, a2, a3, a4, a5, a6, a7, a8, a9, a10, a11, a12, a13⟩ := h
  rw [← e10] at a8
  rw [← e7, ← e8] at a9
  rw [← e8] at a10 a11
  exact ⟨a1, a2, a3, a4, a5, a6, a7, a8, a9, a10, a11, a12, a13⟩
theorem row_at {w : World} {t g n cap : Nat} {xs : List Value} (h : w.ownsRow 0 t 1 (.slice (some ⟨g, 0, none⟩) n cap) n xs) {i : Nat} {x : Value} (hx : xs[i]? = some x) : w.cell? ⟨g, i, none⟩ = some x := by
  rcases h.2 with ⟨e, _⟩ | ⟨g', cap', cur, e, _, h2, _, _, _, h6⟩
  · cases e
  · cases e
    rw [Nat.mul_one] at h6
    have : cur.toList[i]? = some x := by
      rw [← h6] at hx
      have hlt : i < (cur.toList.take n).length := (List.getElem?_eq_some_iff.1 hx).1
      rw [List.length_take] at hlt
      rwa [List.getElem?_take_of_lt (by omega)] at hx
    simp only [World.cell?, h2]
    simpa using this
theorem held_slice {a : Option Addr} {n c : Nat} {u : Value} (h : heldV u) (e : u = .slice a n c) : False := by
  subst e
  rcases h with ⟨_, h⟩ | ⟨_, _, _, h⟩ <;> cases h
theorem held_int {k : IntKind} {n : Int} {u : Value} (h : heldV u) (e : u = .int k n) : False := by
  subst e
  rcases h with ⟨_, h⟩ | ⟨_, _, _, h⟩ <;> cases h
/-- A new element's block. -/
theorem OI.boxed (hn : Got bm s ∧ Rd em ∧ Rd ei) (h : OI own Rd Wg em ei bm s nn v xs x w₀ L γ w) (ho : own w.heap.size) : OI own Rd Wg em ei bm s nn v xs x w₀ (L.setIfInBounds 7 true) (w.heap.size, γ.2) (w.alloc (.cells #[.int .i64 x] 3)) := by
  have hnx := heap_alloc_new w (Obj.cells #[Value.int .i64 x] 3)
  have h2 := h.rely hn (rel_new (by simp) (fun b hb => heap_alloc_old w (Obj.cells #[Value.int .i64 x] 3) b hb) rfl rfl rfl)
  have e8 : (L.setIfInBounds 7 true).getD 8 false = L.getD 8 false := by rw [getD_set, if_neg (fun e => by omega)]
  have e10 : (L.setIfInBounds 7 true).getD 10 false = L.getD 10 false := by rw [getD_set, if_neg (fun e => by omega)]
  obtain ⟨a1, a2, a3, a4, a5, a6, a7, a8, _, a10, a11, a12, a13⟩ := h2
  rw [← e10] at a8
  rw [← e8] at a10 a11
  exact ⟨a1, a2, a3, a4, a5, a6, a7, a8, fun _ _ => ⟨by unfold World.cell?; rw [hnx]; rfl, ho, _, hnx⟩, a10, a11, a12, a13⟩
/-- The append. -/
theorem OI.appended {v' : Value} (h : OI own Rd Wg em ei bm s nn v xs x w₀ L γ w) (h8 : L.getD 8 false = false) (h10 : L.getD 10 false = false) (hsz : 8 < L.size) (hgr : w.grownBy w₁ v.ownBlock) (hrow : w₁.ownsRow 0 3 1 v' (xs.length + 1) (xs ++ [.int .i64 x])) (hown : ∀ g, v'.ownBlock = some g → v.ownBlock = some g ∨ (w.heap.size ≤ g ∧ own g)) :
    OI own Rd Wg em ei bm s nn v xs x w₀ (L.setIfInBounds 8 true) (γ.1, v') w₁ := by
  obtain ⟨hr, hm⟩ := h.row h8
  have e8 : (L.setIfInBounds 8 true).getD 8 false = true := by rw [getD_set, if_pos ⟨rfl, hsz⟩]
  have e10 : (L.setIfInBounds 8 true).getD 10 false = false := by rw [getD_set, if_neg (fun e => by omega)]; exact h10
  obtain ⟨ce, hce⟩ := h.ec
  obtain ⟨cb, hcb⟩ := h.bc
  obtain ⟨ci, hci⟩ := h.ic
  obtain ⟨st, sm, hl⟩ := h.live
  have hl' : w.heap[Wg]? = some (Go.ConcR.wgBlock 66 st sm) := hl
  have ne : ∀ b y, w.heap[b]? = some y → (∀ cs : Array Value, y ≠ Obj.cells cs 3 (0, 0)) → w₁.heap[b]? = w.heap[b]? := fun b y hy hn => hgr.block b (Array.getElem?_eq_some_iff.1 hy).1 fun e => by
    obtain ⟨cs', hc'⟩ := row_typ hr e.symm
    rw [hy] at hc'
    exact hn cs' (Option.some.inj hc')
  have nem := ne em _ hce (fun cs e => by cases e)
  have nbm := ne bm _ hcb (fun cs e => by cases e)
  have nW := ne Wg _ hl' (fun cs e => by cases e)
  have nei : w₁.heap[ei]? = w.heap[ei]? := hgr.block ei (cell_lt h.ix) fun e => (hm ei e.symm).2.1 rfl
  have hc := h.cell
  rw [h10] at hc
  refine ⟨⟨st, sm, hl.of_block nW⟩, (cell?_eq nem 0).trans h.me, ⟨ce, nem.trans hce⟩, (cell?_eq nei 0).trans h.ix, ⟨ci, nei.trans hci⟩, h.lt, ⟨cb, nbm.trans hcb⟩, ?_, fun _ hx => ?_, fun hx => ?_, fun _ => ⟨hrow, fun g hg => ?_⟩, h.ints, fun e u he hu hv => ?_⟩
  · rw [e10]; exact (cell?_eq nbm s).trans hc
  · rw [e8] at hx; cases hx
  · rw [e8] at hx; cases hx
  · rcases hown g hg with y | ⟨y, z⟩
    · exact ⟨(hm g y).1, (hm g y).2.1⟩
    · exact ⟨z, fun e => by have := cell_lt h.ix; omega⟩
  · have hk := h.kept e u he hu hv
    refine (cell?_eq (hgr.block e (cell_lt hk) fun e' => ?_) 0).trans hk
    obtain ⟨_, _, hpos⟩ := hm e e'.symm
    rcases hr.2 with ⟨hv0, h0⟩ | ⟨g, cap, cur, hv0, _⟩
    · omega
    · rw [hv0] at e' hr
      cases e'
      have h0 : xs[0]? = some xs[0] := List.getElem?_eq_getElem hpos
      have h1 := row_at hr h0
      obtain ⟨n, hn⟩ := h.ints _ (List.getElem_mem hpos)
      rw [hk, hn] at h1
      exact held_int hu (Option.some.inj h1)
/-- The store. -/
theorem OI.stored {gx n cap : Nat} {a : Option Addr} {n' c' : Nat} (h : OI own Rd Wg em ei bm s nn v xs x w₀ L γ w) (h8 : L.getD 8 false = true) (hL : L.getD 10 false = false) (hsz : 10 < L.size) (_hv : γ.2 = .slice (some ⟨gx, 0, none⟩) n cap) (hvv : v = .slice a n' c') :
    OI own Rd Wg em ei bm s nn v xs x w₀ (L.setIfInBounds 10 true) γ (w.setCell ⟨bm, s, none⟩ γ.2) := by
  obtain ⟨hr, hm⟩ := h.row' h8
  have e7 : (L.setIfInBounds 10 true).getD 7 false = L.getD 7 false := by rw [getD_set, if_neg (fun e => by omega)]
  have e8 : (L.setIfInBounds 10 true).getD 8 false = true := by rw [getD_set, if_neg (fun e => by omega)]; exact h8
  have e10 : (L.setIfInBounds 10 true).getD 10 false = true := by rw [getD_set, if_pos ⟨rfl, hsz⟩]
  obtain ⟨ce, hce⟩ := h.ec
  obtain ⟨cb, hcb⟩ := h.bc
  obtain ⟨ci, hci⟩ := h.ic
  have hc := h.cell
  rw [hL] at hc
  have ne : ∀ b, b ≠ bm → (w.setCell ⟨bm, s, none⟩ γ.2).heap[b]? = w.heap[b]? := fun b hb => setCell_ne hb
  have at' : (w.setCell ⟨bm, s, none⟩ γ.2).heap[bm]? = some (.cells (cb.setIfInBounds s γ.2) 22 (0, 0)) := by
    unfold World.setCell
    simp [Array.getElem?_modify, hcb]
  have typ : ∀ (b : Nat) (cs : Array Value) (t : TypeId), w.heap[b]? = some (.cells cs t (0, 0)) → t ≠ 22 → b ≠ bm := fun b cs t hb ht e => by
    rw [e, hcb] at hb
    simp only [Option.some.injEq, Obj.cells.injEq] at hb
    exact ht hb.2.1.symm
  have nem := ne em (typ _ _ _ hce (by decide))
  have nei := ne ei (typ _ _ _ hci (by decide))
  have hlen : s < cb.size := by
    simp only [World.cell?, hcb] at hc
    cases hh : cb[s]? with
    | none => simp [hh] at hc
    | some x => exact (Array.getElem?_eq_some_iff.1 hh).1
  have hW : Wg ≠ bm := fun e => wg_typ h.live hcb (by decide) e.symm
  refine ⟨?_, (cell?_eq nem 0).trans h.me, ⟨ce, nem.trans hce⟩, (cell?_eq nei 0).trans h.ix, ⟨ci, nei.trans hci⟩, h.lt, ⟨_, at'⟩, ?_, fun _ hx => ?_, fun hx => ?_, fun _ => ⟨ownsRow_of hr fun g hg => ne g ?_, hm⟩, h.ints, fun e u he hu hx => ?_⟩
  · obtain ⟨st, sm, hl⟩ := h.live
    exact ⟨st, sm, hl.of_block (ne Wg hW)⟩
  · rw [e10]; simp [World.cell?, at', hlen]
  · rw [e8] at hx; cases hx
  · rw [e8] at hx; cases hx
  · obtain ⟨cs', hc'⟩ := row_typ hr hg
    exact typ _ _ _ hc' (by decide)
  · have hk := h.kept e u he hu hx
    by_cases heb : e = bm
    · subst heb
      by_cases hs : s = 0
      · subst hs
        rw [hk] at hc
        exact (held_slice hu ((Option.some.inj hc).trans hvv)).elim
      · simp only [World.cell?, hcb] at hk
        simp only [World.cell?, at']
        rw [Array.getElem?_setIfInBounds_ne hs]
        exact hk
    · exact (cell?_eq (ne e heb) 0).trans hk
end
end Go.Proofs.Ytblpmdolclalnaa

namespace Go.Proofs.Ytblpmdolclalnaa
open Go.Conc Go.RowKit Go.Conc.Lib Go.ConcR.Gen Go.ConcN.Gen
open Go.ConcR (WgAt KK stA smA rd wr mk DC0)
open Go.ConcN (WgLive)
section
variable {own : Nat → Prop} {Got : Cells} {Rd : Nat → Prop} {Wg em ei bm s nn n' c' : Nat} {xs : List Value} {v : Value} {x : Int} {w₀ w w₁ : World} {Stop : Goroutine → World → Prop} {T0 : Array Value} {k : List Item} {cs : List Frame} {a : Option Addr}
set_option maxRecDepth 100000 in
set_option maxHeartbeats 8000000 in
theorem draw18 (hnd : Got bm s ∧ Rd em ∧ Rd ei) (hlen : xs.length + 1 ≤ 1000000) (hvv : v = .slice a n' c') (hsz : T0.size = 17) (t0 : T0[0]? = some (.int .i64 x)) (t1 : T0[1]? = some (ptr em)) (t2 : T0[2]? = some (ptr ei)) :
    DrawG Try.prog false own (KR 66 Wg own Got Rd) (KD Wg own Got Rd) Stop 1 (base 18) ops18 T0 d18 (val18 bm s nn v x) (OI own Rd Wg em ei bm s nn v xs x w₀) k cs := by
  have en : ops18.size = 11 := by kernel_rfl
  refine ⟨by kernel_rfl, fun a c ha hc => ?_, fun i L γ w rest T N hi hLs hL hn hcl hT0 hB0 hTs hI hgo => ?_⟩
  · have key : ∀ a, a < 11 → ∀ c, c < 11 → d18 a = d18 c → a = c := by decide
    exact key a (by omega) c (by omega)
  have hT : ∀ j, j < 11 → L.getD j false = true → d18 j < T0.size → T[d18 j]? = some (val18 bm s nn v x γ j) := fun j h => hT0 j (by omega)
  have hB : ∀ m, (∀ j, j < 11 → d18 j ≠ m) → T[m]? = T0[m]? := fun m h => hB0 m fun j hj => h j (by omega)
  clear hT0 hB0
  have : i = 0 ∨ i = 1 ∨ i = 2 ∨ i = 3 ∨ i = 4 ∨ i = 5 ∨ i = 6 ∨ i = 7 ∨ i = 8 ∨ i = 9 ∨ i = 10 := by omega
  rcases this with rfl | rfl | rfl | rfl | rfl | rfl | rfl | rfl | rfl | rfl | rfl
  · obtain ⟨pos, after, ho⟩ := op_at op18_0
    have b1 : T[1]? = some (ptr em) := (hB 1 (by decide)).trans t1
    refine goo_pure ho rfl rfl (by decide) (fun w₁ h₁ => ⟨?_, ?_⟩) fun w₁ h₁ => hgo γ w₁ (fun _ _ => rfl) ((hI.rely hnd h₁).pure (by decide))
    · have hc := (hI.rely hnd h₁).me
      simp [execOp, go_sem, val18, ptr, b1, hc]
    · refine gua_read fun ev hev => ?_
      have hc := (hI.rely hnd h₁).me
      have hm := mem_listed hev
      simp [execOp, go_sem, ptr, b1, hc] at hm
      exact ⟨_, hm, cell_lt hc, .inr (.inr (.inr hnd.2.1))⟩
  · obtain ⟨pos, after, ho⟩ := op_at op18_1
    have b2 : T[2]? = some (ptr ei) := (hB 2 (by decide)).trans t2
    refine goo_pure ho rfl rfl (by decide) (fun w₁ h₁ => ⟨?_, ?_⟩) fun w₁ h₁ => hgo γ w₁ (fun _ _ => rfl) ((hI.rely hnd h₁).pure (by decide))
    · have hc := (hI.rely hnd h₁).ix
      simp [execOp, go_sem, val18, ptr, b2, hc]
    · refine gua_read fun ev hev => ?_
      have hc := (hI.rely hnd h₁).ix
      have hm := mem_listed hev
      simp [execOp, go_sem, ptr, b2, hc] at hm
      exact ⟨_, hm, cell_lt hc, .inr (.inr (.inr hnd.2.2))⟩
  · obtain ⟨pos, after, ho⟩ := op_at op18_2
    have b1 : T[1]? = some (ptr em) := (hB 1 (by decide)).trans t1
    refine goo_pure ho rfl rfl (by decide) (fun w₁ h₁ => ⟨?_, ?_⟩) fun w₁ h₁ => hgo γ w₁ (fun _ _ => rfl) ((hI.rely hnd h₁).pure (by decide))
    · have hc := (hI.rely hnd h₁).me
      simp [execOp, go_sem, val18, ptr, b1, hc]
    · refine gua_read fun ev hev => ?_
      have hc := (hI.rely hnd h₁).me
      have hm := mem_listed hev
      simp [execOp, go_sem, ptr, b1, hc] at hm
      exact ⟨_, hm, cell_lt hc, .inr (.inr (.inr hnd.2.1))⟩
  · obtain ⟨pos, after, ho⟩ := op_at op18_3
    have b2 : T[2]? = some (ptr ei) := (hB 2 (by decide)).trans t2
    refine goo_pure ho rfl rfl (by decide) (fun w₁ h₁ => ⟨?_, ?_⟩) fun w₁ h₁ => hgo γ w₁ (fun _ _ => rfl) ((hI.rely hnd h₁).pure (by decide))
    · have hc := (hI.rely hnd h₁).ix
      simp [execOp, go_sem, val18, ptr, b2, hc]
    · refine gua_read fun ev hev => ?_
      have hc := (hI.rely hnd h₁).ix
      have hm := mem_listed hev
      simp [execOp, go_sem, ptr, b2, hc] at hm
      exact ⟨_, hm, cell_lt hc, .inr (.inr (.inr hnd.2.2))⟩
  · obtain ⟨pos, after, ho⟩ := op_at op18_4
    have e2 : T[7]? = some (.slice (some ⟨bm, 0, none⟩) nn nn) := hT 2 (by omega) (hn 2 (by kernel_rfl)) (by rw [hsz]; decide)
    have e3 : T[8]? = some (.int .i64 s) := hT 3 (by omega) (hn 3 (by kernel_rfl)) (by rw [hsz]; decide)
    have hlt := hI.lt
    have ia : (0 : Int) ≤ (s : Int) ∧ (s : Int) < (nn : Int) := by omega
    refine goo_pure ho rfl rfl (by decide) (fun w₁ h₁ => ⟨?_, ?_⟩) fun w₁ h₁ => hgo γ w₁ (fun _ _ => rfl) ((hI.rely hnd h₁).pure (by decide))
    · simp [execOp, go_sem, val18, e2, e3, ia]
    · refine gua_read fun ev hev => ?_
      have hm := mem_listed hev
      simp [execOp, go_sem, e2, e3, ia] at hm
  · obtain ⟨pos, after, ho⟩ := op_at op18_5
    have e4 : T[9]? = some (.pointer (some ⟨bm, s, none⟩)) := hT 4 (by omega) (hn 4 (by kernel_rfl)) (by rw [hsz]; decide)
    have h10 : L.getD 10 false = false := by
      cases hx : L.getD 10 false with
      | false => rfl
      | true =>
        have h5 := hcl 8 5 (hcl 10 8 hx (by kernel_rfl)) (by kernel_rfl)
        rw [hL] at h5; cases h5
    refine goo_pure ho rfl rfl (by decide) (fun w₁ h₁ => ⟨?_, ?_⟩) fun w₁ h₁ => hgo γ w₁ (fun _ _ => rfl) ((hI.rely hnd h₁).pure (by decide))
    · have hc := (by have hc := (hI.rely hnd h₁).cell; rw [h10] at hc; exact hc : w₁.cell? ⟨bm, s, none⟩ = some v)
      simp [execOp, go_sem, val18, e4, hc]
    · refine gua_read fun ev hev => ?_
      have hc := (by have hc := (hI.rely hnd h₁).cell; rw [h10] at hc; exact hc : w₁.cell? ⟨bm, s, none⟩ = some v)
      have hm := mem_listed hev
      simp [execOp, go_sem, e4, hc] at hm
      exact ⟨_, hm, cell_lt hc, .inr (.inr (.inl hnd.1))⟩
  · obtain ⟨pos, after, ho⟩ := op_at op18_6
    have b0 : T[0]? = some (.int .i64 x) := (hB 0 (by decide)).trans t0
    refine goo_pure ho rfl rfl (by decide) (fun w₁ h₁ => ⟨?_, ?_⟩) fun w₁ h₁ => hgo γ w₁ (fun _ _ => rfl) ((hI.rely hnd h₁).pure (by decide))
    · simp [execOp, go_sem, val18, b0]
    · refine gua_read fun ev hev => ?_
      have hm := mem_listed hev
      simp [execOp, go_sem, b0] at hm
  · obtain ⟨pos, after, ho⟩ := op_at op18_7
    have e6 : T[11]? = some (.int .i64 x) := hT 6 (by omega) (hn 6 (by kernel_rfl)) (by rw [hsz]; decide)
    refine Goo.step rfl fun w₁ h₁ => ?_
    have hI1 := hI.rely hnd h₁
    have hr : (execOp (⟨T, []⟩ : Act).eval ⟨some 12, .buildSlice 22 1 #[(0, .tmp 11)], 22, pos, after, none⟩).run Try.prog w₁ = .ok (.value (.slice (some ⟨w₁.heap.size, 0, none⟩) 1 1)) (w₁.alloc (.cells #[.int .i64 x] 3)) := by simp [execOp, go_sem, e6]
    rw [stepG_value ho (by simp [Region.wanted]) (by decide) hr]
    refine ⟨gua_but (S := fun _ => False) (fun _ h => h.elim) (by simp) (fun b hb _ => heap_alloc_old _ _ b hb) (fun _ _ h => h.elim) rfl rfl rfl (fun e he => ?_), fun hnew => ?_⟩
    · have hm := mem_listed he
      simp [execOp, go_sem, e6] at hm
    refine hgo (w₁.heap.size, γ.2) _ (fun j hj => ?_) (hI1.boxed hnd (hnew _ (Nat.le_refl _) (by simp)))
    · skip
      have n7 : ¬ L.getD 7 false = true := fun hm => by rw [hL] at hm; cases hm
      have n8 : ¬ L.getD 8 false = true := fun h => n7 (hcl 8 7 h (by kernel_rfl))
      have n9 : ¬ L.getD 9 false = true := fun h => n7 (hcl 9 7 h (by kernel_rfl))
      have n10 : ¬ L.getD 10 false = true := fun h => n7 (hcl 10 7 h (by kernel_rfl))
      match j, hj with
      | 0, hj => exact rfl
      | 1, hj => exact rfl
      | 2, hj => exact rfl
      | 3, hj => exact rfl
      | 4, hj => exact rfl
      | 5, hj => exact rfl
      | 6, hj => exact rfl
      | 7, hj => exact absurd hj n7
      | 8, hj => exact absurd hj n8
      | 9, hj => exact absurd hj n9
      | 10, hj => exact absurd hj n10
      | _ + 11, _ => exact rfl
  · obtain ⟨pos, after, ho⟩ := op_at op18_8
    have e5 : T[10]? = some (v) := hT 5 (by omega) (hn 5 (by kernel_rfl)) (by rw [hsz]; decide)
    have e7 : T[12]? = some (.slice (some ⟨γ.1, 0, none⟩) 1 1) := hT 7 (by omega) (hn 7 (by kernel_rfl)) (by rw [hsz]; decide)
    have h10 : L.getD 10 false = false := by
      cases hx : L.getD 10 false with
      | false => rfl
      | true =>
        have h5 := hcl 10 8 hx (by kernel_rfl)
        rw [hL] at h5; cases h5
    have h7 := hn 7 (by kernel_rfl)
    refine Goo.step rfl fun w₁ h₁ => ?_
    have hI1 := hI.rely hnd h₁
    obtain ⟨hbx, hmine, ds, hds⟩ := hI1.box h7 hL
    obtain ⟨hrow, hown⟩ := hI1.row hL
    obtain ⟨v', w', hr, hrow', hgr, hb', hgua⟩ := append1 (P := Try.prog) (said := false) (Wg := Wg) (Writ := writK own Got) (Read := keepK own Got Rd) (ty := 22) oneT22 (cx := 1) hrow hbx rfl hlen
      (fun g hg => ⟨(let ⟨_, hcs⟩ := row_typ hrow hg; wg_typ hI1.live hcs (by decide)), fun _ => .inl (hown g hg).1⟩) ⟨wg_typ hI1.live hds (by decide), fun _ => .inl (.inl hmine)⟩
    have q5 : (⟨T, []⟩ : Act).eval (.tmp 10) = v := by simp [Act.eval, e5]
    have q7 : (⟨T, []⟩ : Act).eval (.tmp 12) = .slice (some ⟨γ.1, 0, none⟩) 1 1 := by simp [Act.eval, e7]
    rw [stepG_value ho (by simp [Region.wanted]) (by decide) (run_append_op _ _ 22 rfl q5 q7 hr)]
    refine ⟨?_, fun hnew => ?_⟩
    · unfold listed
      rw [events_append_op _ _ 22 rfl q5 q7]
      exact hgua _
    refine hgo (γ.1, v') w' (fun j hj => ?_) (hI1.appended hL h10 (by omega) hgr hrow' fun g hg => (hb' g hg).imp id fun h => ⟨h.1, hnew g h.1 h.2⟩)
    · skip
      have n8 : ¬ L.getD 8 false = true := fun hm => by rw [hL] at hm; cases hm
      have n9 : ¬ L.getD 9 false = true := fun h => n8 (hcl 9 8 h (by kernel_rfl))
      have n10 : ¬ L.getD 10 false = true := fun h => n8 (hcl 10 8 h (by kernel_rfl))
      match j, hj with
      | 0, hj => exact rfl
      | 1, hj => exact rfl
      | 2, hj => exact rfl
      | 3, hj => exact rfl
      | 4, hj => exact rfl
      | 5, hj => exact rfl
      | 6, hj => exact rfl
      | 7, hj => exact rfl
      | 8, hj => exact absurd hj n8
      | 9, hj => exact absurd hj n9
      | 10, hj => exact absurd hj n10
      | _ + 11, _ => exact rfl
  · obtain ⟨pos, after, ho⟩ := op_at op18_9
    have e0 : T[5]? = some (.slice (some ⟨bm, 0, none⟩) nn nn) := hT 0 (by omega) (hn 0 (by kernel_rfl)) (by rw [hsz]; decide)
    have e1 : T[6]? = some (.int .i64 s) := hT 1 (by omega) (hn 1 (by kernel_rfl)) (by rw [hsz]; decide)
    have hlt := hI.lt
    have ia : (0 : Int) ≤ (s : Int) ∧ (s : Int) < (nn : Int) := by omega
    refine goo_pure ho rfl rfl (by decide) (fun w₁ h₁ => ⟨?_, ?_⟩) fun w₁ h₁ => hgo γ w₁ (fun _ _ => rfl) ((hI.rely hnd h₁).pure (by decide))
    · simp [execOp, go_sem, val18, e0, e1, ia]
    · refine gua_read fun ev hev => ?_
      have hm := mem_listed hev
      simp [execOp, go_sem, e0, e1, ia] at hm
  · obtain ⟨pos, after, ho⟩ := op_at op18_10
    have e8 : T[13]? = some (γ.2) := hT 8 (by omega) (hn 8 (by kernel_rfl)) (by rw [hsz]; decide)
    have e9 : T[14]? = some (.pointer (some ⟨bm, s, none⟩)) := hT 9 (by omega) (hn 9 (by kernel_rfl)) (by rw [hsz]; decide)
    have h8 := hn 8 (by kernel_rfl)
    refine Goo.step rfl fun w₁ h₁ => ?_
    have hI1 := hI.rely hnd h₁
    obtain ⟨gx, cap, hv⟩ : ∃ gx cap, γ.2 = .slice (some ⟨gx, 0, none⟩) (xs.length + 1) cap := by
      rcases (hI1.row' h8).1.2 with ⟨_, h0⟩ | ⟨gx, cap, cur, hv', _⟩
      · omega
      · exact ⟨gx, cap, hv'⟩
    have h0 := hI1.cell
    rw [hL] at h0
    obtain ⟨cb, hcb⟩ := hI1.bc
    have hfz := frozen_of hcb s
    have hst := hI1.stored h8 hL (by omega) hv hvv
    rw [hv] at e8 hst
    have hr : (execOp (⟨T, []⟩ : Act).eval ⟨none, .store 22 (.tmp 14) (.tmp 13), 0, pos, after, none⟩).run Try.prog w₁ = .ok .skip (w₁.setCell ⟨bm, s, none⟩ (.slice (some ⟨gx, 0, none⟩) (xs.length + 1) cap)) := by
      simp [execOp, go_sem, e8, e9, stored, h0, hfz]
    rw [stepG_none ho (by simp [Region.wanted]) (by decide) hr]
    refine ⟨gua_write rfl hcb (.inr hnd.1) fun e he => ?_, fun _ => ?_⟩
    · have hm := mem_listed he
      simp [execOp, go_sem, e8, e9, storedEv, h0, hfz] at hm
      exact hm
    have := hgo γ _ (fun _ _ => rfl) hst
    rw [show T.setIfInBounds (d18 10) (val18 bm s nn v x γ 10) = T from Array.setIfInBounds_eq_of_size_le (by rw [hTs, hsz]; decide)] at this
    exact this
end
end Go.Proofs.Ytblpmdolclalnaa

namespace Go.Proofs.Ytblpmdolclalnaa
open Go.Conc Go.RowKit Go.Conc.Lib Go.ConcR.Gen Go.ConcN.Gen
open Go.ConcR (WgAt KK stA smA rd wr mk DC0)
open Go.ConcN (WgLive)
theorem array17o (T : Array Value) (h : T.size = 17) : ∃ v0 v1 v2 v3 v4 v5 v6 v7 v8 v9 v10 v11 v12 v13 v14 v15 v16, T = #[v0, v1, v2, v3, v4, v5, v6, v7, v8, v9, v10, v11, v12, v13, v14, v15, v16] := by
  obtain ⟨l⟩ := T
  simp only [List.size_toArray] at h
  rcases l with _ | ⟨v0, l⟩
  · simp at h
  rcases l with _ | ⟨v1, l⟩
  · simp at h
  rcases l with _ | ⟨v2, l⟩
  · simp at h
  rcases l with _ | ⟨v3, l⟩
  · simp at h
  rcases l with _ | ⟨v4, l⟩
  · simp at h
  rcases l with _ | ⟨v5, l⟩
  · simp at h
  rcases l with _ | ⟨v6, l⟩
  · simp at h
  rcases l with _ | ⟨v7, l⟩
  · simp at h
  rcases l with _ | ⟨v8, l⟩
  · simp at h
  rcases l with _ | ⟨v9, l⟩
  · simp at h
  rcases l with _ | ⟨v10, l⟩
  · simp at h
  rcases l with _ | ⟨v11, l⟩
  · simp at h
  rcases l with _ | ⟨v12, l⟩
  · simp at h
  rcases l with _ | ⟨v13, l⟩
  · simp at h
  rcases l with _ | ⟨v14, l⟩
  · simp at h
  rcases l with _ | ⟨v15, l⟩
  · simp at h
  rcases l with _ | ⟨v16, l⟩
  · simp at h
  rcases l with _ | ⟨v17, l⟩
  · exact ⟨v0, v1, v2, v3, v4, v5, v6, v7, v8, v9, v10, v11, v12, v13, v14, v15, v16, rfl⟩
  · simp at h
noncomputable def tl18 : Code := cS (cS body18)
section
variable {own : Nat → Prop} {Got : Cells} {Rd : Nat → Prop} {Wg em ei bm s nn : Nat} {xs : List Value} {v : Value} {x : Int} {w₀ w w₁ : World} {L : Array Bool} {γ : Nat × Value}
theorem enter18 {a : Act} {o : Oper} {y z : Operand} {ats : Array TypeId} {u : Value} (hop : o.op = .call { callee := .value y, args := #[z], argTypes := ats }) (hy : a.eval y = stV em ei) (hz : a.eval z = u) :
    (execOp a.eval o).run Try.prog w = .ok (.enter 18 #[u, ptr em, ptr ei]) w ∧ (execOp a.eval o).events Try.prog w #[] = #[] := by
  constructor
  · unfold execOp
    simp only [hop]
    simp [resolve, Deferred.ofValue, hy, hz, stV, invoke, callFunc, Try.func18, Try.f18]
  · unfold execOp
    simp only [hop]
    simp [resolve, Deferred.ofValue, hy, hz, stV, invoke, callFunc, Try.func18, Try.f18]
theorem OI.over (h : OI own Rd Wg em ei bm s nn v xs x w₀ (Array.replicate 11 true) γ w) : OX own em ei bm s nn (xs ++ [.int .i64 x]) w := by
  obtain ⟨h1, h2⟩ := h.row' (by decide)
  have hc := h.cell
  rw [if_pos (by decide)] at hc
  refine ⟨h.me, h.ec, h.ix, h.ic, h.lt, h.bc, ⟨_, hc, by simpa using h1, fun g hg => ⟨(h2 g hg).1, (h2 g hg).2, by simp⟩⟩, fun y hy => ?_⟩
  rcases List.mem_append.1 hy with z | z
  · exact h.ints y z
  · exact ⟨x, by simpa using z⟩
set_option maxRecDepth 100000 in
set_option maxHeartbeats 4000000 in
theorem call18 (hnd : Got bm s ∧ Rd em ∧ Rd ei) (hlen : xs.length + 1 ≤ 1000000) : Calls own Got Rd Wg (stV em ei) x (IntKind.i64.wrap (x + 1000)) (OX own em ei bm s nn xs) (OX own em ei bm s nn (xs ++ [.int .i64 x])) 80 := by
  intro b a ops i rest k cs o y z ats w ho hw hk hop hy hz hl hX
  have hD : ∀ w, KD Wg own Got Rd w w #[] := fun w => Gua.idle w
  obtain ⟨v, hv, hrow, hmine⟩ := hX.row
  obtain ⟨fa, n', c', hvv⟩ : ∃ fa n' c', v = .slice fa n' c' := by
    rcases hrow.2 with ⟨e, _⟩ | ⟨g, cap, cur, e, _⟩ <;> exact ⟨_, _, _, e⟩
  obtain ⟨w₀, hw₀⟩ : ∃ w₀, w₀ = w := ⟨w, rfl⟩
  have hF : OI own Rd Wg em ei bm s nn v xs x w₀ (Array.replicate 11 false) (0, undef) w := ⟨hl, hX.me, hX.ec, hX.ix, hX.ic, hX.lt, hX.bc, by rw [no_done]; exact hv, fun h => by (rw [no_done] at h; cases h), fun _ => ⟨hrow, hmine⟩, fun h => by (rw [no_done] at h; cases h), hX.ints, fun _ _ _ _ h => by rw [← hw₀]; exact h⟩
  have rl : ∀ {w w₁ : World}, OI own Rd Wg em ei bm s nn v xs x w₀ (Array.replicate 11 false) (0, undef) w → KR 66 Wg own Got Rd w w₁ → OI own Rd Wg em ei bm s nn v xs x w₀ (Array.replicate 11 false) (0, undef) w₁ := fun h r => h.rely hnd r
  have en : ops18.size = 11 := by kernel_rfl
  clear hv hrow hmine hX hl
  refine Goo.mono (n := 40 + 20) (Goo.bind KR.refl' (m := 40) (Stop := fun g w' => g = G ((base 18).at ⟨#[.int .i64 x, ptr em, ptr ei, undef, .int .i64 0, undef, undef, undef, undef, undef, undef, undef, undef, undef, undef, undef, undef], []⟩ [.code (.region 1 ops18 true), .code tl18]) (b.at a (.inRegion ops (i :: rest) :: k) :: cs) ∧ OI own Rd Wg em ei bm s nn v xs x w₀ (Array.replicate 11 false) (0, undef) w') (fun g w' h => ?_) (Goo.of_goes (n := 20) ?_)) (by omega)
  · obtain ⟨rfl, hF⟩ := h
    refine Goo.mono (n := 20 + ops18.size * 1 + 1) (goo_drawn (D := KD Wg own Got Rd) (by kernel_rfl) (fun w => Gua.draw w) (γ := (0, undef)) (draw18 (nn := nn) (w₀ := w₀) hnd hlen hvv rfl rfl rfl rfl) (fun w₁ h₁ => ?_) fun γ w' hI => ?_) (by rw [en]; decide)
    · rw [en]
      exact rl hF (draw_rely h₁)
    · rw [en] at hI ⊢
      have t0 : (fillD #[.int .i64 x, ptr em, ptr ei, undef, .int .i64 0, undef, undef, undef, undef, undef, undef, undef, undef, undef, undef, undef, undef] d18 (val18 bm s nn v x γ) (Array.replicate 11 true) 11)[0]? = some (.int .i64 x) := fillD_else _ fun j hj _ => (by decide : ∀ j, j < 11 → d18 j ≠ 0) j hj
      have hsz : (fillD #[.int .i64 x, ptr em, ptr ei, undef, .int .i64 0, undef, undef, undef, undef, undef, undef, undef, undef, undef, undef, undef, undef] d18 (val18 bm s nn v x γ) (Array.replicate 11 true) 11).size = 17 := by rw [fillD_size]; rfl
      generalize fillD #[.int .i64 x, ptr em, ptr ei, undef, .int .i64 0, undef, undef, undef, undef, undef, undef, undef, undef, undef, undef, undef, undef] d18 (val18 bm s nn v x γ) (Array.replicate 11 true) 11 = T at t0 hsz ⊢
      obtain ⟨v0, v1, v2, v3, v4, v5, v6, v7, v8, v9, v10, v11, v12, v13, v14, v15, v16, rfl⟩ := array17o T hsz
      simp only [List.getElem?_toArray, List.getElem?_cons_zero, Option.some.injEq] at t0
      subst t0
      clear hsz rl hF
      have rl : ∀ {w w₁ : World}, OI own Rd Wg em ei bm s nn v xs x w₀ (Array.replicate 11 true) γ w → KR 66 Wg own Got Rd w w₁ → OI own Rd Wg em ei bm s nn v xs x w₀ (Array.replicate 11 true) γ w₁ := fun h r => h.rely hnd r
      have hF := hI
      clear hI
      refine Goo.of_goes (n := 20) ?_
      simp only [ops18, tl18, cO, cF, cS, body18, Try.f18, Option.getD_some]
      repeat ((first | ((with_reducible refine g_opG ?_); (first | (refine g_unw hD rfl rfl (fun _ h₁ => ?_); replace hF := rl hF h₁; clear h₁; walk_nrm) | (refine Goes.step rfl (fun _ h₁ => ?_); replace hF := rl hF h₁; clear h₁; refine goes_oper_k rfl rfl (by k_ne) (fun K hK => ?_); go_simp; refine hK _ _ ⟨?_, ?_⟩; (focus (refine g_idle hD ?_; intro e he; have hm := mem_listed he; simp [go_sem, *] at hm; done)); clear hK K; try w_num))) | ((first | (with_reducible first | refine g_k true true hD rfl ?_ | refine g_ret hD ?_ | refine g_end hD ?_) | ((with_reducible refine g_ct hD ?_ ?_); (focus exact rfl)) | ((with_reducible refine g_cf hD ?_ ?_); (focus exact rfl))); intro _ h₁; replace hF := rl hF h₁; clear h₁) | ((with_reducible refine g_reg hD (fun _ h₁ => ?_)); replace hF := rl hF h₁; clear h₁; simp only [regN]) | ((with_reducible refine g_exit hD (k' := ?_) ?_ (fun _ h₁ => ?_)); rotate_left; (focus exact rfl); replace hF := rl hF h₁; clear h₁)))
      (refine Goes.step rfl (fun _ h₁ => ?_); replace hF := rl hF h₁; clear h₁)
      refine goes_leave1 rfl rfl Try.func18 rfl ⟨by exact (g_idle hD (fun e he => by simp at he)), ?_⟩
      rw [ho]
      exact Goes.stop fun w₁ h₁ => ⟨rfl, (rl hF h₁).live, (rl hF h₁).over, fun e u he hu hc => (rl hF h₁).kept e u he hu (by rw [hw₀]; exact hc)⟩
  · (refine Goes.step rfl (fun _ h₁ => ?_); replace hF := rl hF h₁; clear h₁)
    rw [stepG_enter ho hw hk (enter18 hop hy hz).1, listed_nil (enter18 hop hy hz).2, enter_at _ Try.func18 rfl]
    simp only [goes_go]
    refine ⟨by exact (g_idle hD (fun e he => by simp at he)), ?_⟩
    simp only [ops18, tl18, cO, cF, cS, body18, Try.f18, Option.getD_some]
    walk_nrm
    repeat ((first | ((with_reducible refine g_opG ?_); (first | (refine g_unw hD rfl rfl (fun _ h₁ => ?_); replace hF := rl hF h₁; clear h₁; walk_nrm) | (refine Goes.step rfl (fun _ h₁ => ?_); replace hF := rl hF h₁; clear h₁; refine goes_oper_k rfl rfl (by k_ne) (fun K hK => ?_); go_simp; refine hK _ _ ⟨?_, ?_⟩; (focus (refine g_idle hD ?_; intro e he; have hm := mem_listed he; simp [go_sem, *] at hm; done)); clear hK K; try w_num))) | ((first | (with_reducible first | refine g_k true true hD rfl ?_ | refine g_ret hD ?_ | refine g_end hD ?_) | ((with_reducible refine g_ct hD ?_ ?_); (focus exact rfl)) | ((with_reducible refine g_cf hD ?_ ?_); (focus exact rfl))); intro _ h₁; replace hF := rl hF h₁; clear h₁) | ((with_reducible refine g_reg hD (fun _ h₁ => ?_)); replace hF := rl hF h₁; clear h₁; simp only [regN]) | ((with_reducible refine g_exit hD (k' := ?_) ?_ (fun _ h₁ => ?_)); rotate_left; (focus exact rfl); replace hF := rl hF h₁; clear h₁)))
    exact Goes.stop fun w₁ h₁ => ⟨rfl, rl hF h₁⟩
end
end Go.Proofs.Ytblpmdolclalnaa
