/- The law StageMaps: walked whole, goroutine 0 coming to its return with true; the run. Goroutine 0 alone: the pieces of the walk of the law StageChains, from call to call; the loop that makes its functions. Made by gen_lak.py. The law StageChains: walked whole, goroutine 0 coming to its return with true. Goroutine 0 alone: a region that draws its order and in which functions are called: whatever the order, the same values come. Conditions: each operation goes on as soon as those that it waits for are done. -/
import Derived.Test.YtblpmdolclalnaaC23
import Derived.Test.YtblpmdolclalnaaC25
namespace Go.Proofs.Ytblpmdolclalnaa
open Go.Conc

/-- Nothing is shunned at the beginning. -/
abbrev none0 : Nat → Prop := fun _ => False
theorem s66_none (w : World) : S66 none0 w := fun _ h => h.elim
/-- Goroutine 0 at a law's return. -/
def LawEnd (f n r : Nat) (w : World) (S : Nat → Prop) (g : Goroutine) (w' : World) : Prop :=
  Keep none0 w S w' ∧ ∃ T k, T.size = n ∧ T[r]? = some (.bool true) ∧ g = G { (base f).at ⟨T, []⟩ k with mode := .returning } []
/-- What a law leaves. -/
def PostL (w : World) (v : Value) (w' : World) : Prop := v = .bool true ∧ w'.os = w.os ∧ w'.tape = w.tape ∧ w'.output = w.output ∧ w.heap.size ≤ w'.heap.size ∧ ∀ b, b < w.heap.size → w'.heap[b]? = w.heap[b]?
theorem law_ends {f n r : Nat} {fn : Func} {w : World} {a : Goroutine} (hi : Try.prog.inits.idxOf? f = none) (hf : Try.prog.funcs[f]? = some fn) (hr : fn.results = #[.tmp r]) (h : Lone Try.prog w.heap.size (LawEnd f n r w) none0 a w) : Ends Try.prog (PostL w) (crowd #[a] w none) #[] := by
  refine Lone.ends (N0 := w.heap.size) (Shun := none0) (a := a) (w := w) (h.imp fun S g w' _ hE d => ?_) rfl (rest_start Try.prog a w)
  obtain ⟨hk, T, k, _, hv, rfl⟩ := hE
  exact ⟨rfl, _, #[], ended1 rfl hi hf hr hv, by simp, rfl, hk.out.os, hk.out.tape, hk.out.out, hk.out.size, fun b hb => hk.out.blk b hb fun _ h => h⟩

end Go.Proofs.Ytblpmdolclalnaa

namespace Go.Proofs.Ytblpmdolclalnaa
open Go.Conc Go.RowKit Go.Conc.Lib Go.ConcR.Gen Go.ConcN.Gen

theorem oneT37 : OneT Try.prog 37 28 := by
  have h0 : (Try.prog.info? 28).isSome = true := by kernel_rfl
  have h1 : ((Try.prog.info? 28).get h0).zero.isSome = true := by kernel_rfl
  exact ⟨Try.underlying37, (Try.prog.info? 28).get h0, ((Try.prog.info? 28).get h0).zero.get h1, by simp, by simp, by kernel_rfl, by kernel_rfl, of_decide_eq_true (by kernel_rfl)⟩
/-- The functions laid so far: their boxes kbs, their slice vf. -/
structure FL (Shun : Nat → Prop) (w : World) (S : Nat → Prop) (codes : List Int) (kbs : List Nat) (vf : Value) (w₁ : World) : Prop where
  keep : Keep Shun w S w₁
  row : w₁.ownsRow 0 28 1 vf kbs.length (kbs.map fnV)
  rowO : ∀ g, vf.ownBlock = some g → w.heap.size ≤ g
  box : ∀ (s k : Nat), kbs[s]? = some k → Cel S k (.int .u8 (codes.getD s 0)) w₁
  nz : ∀ g, vf.ownBlock = some g → 0 < kbs.length
structure FX (Shun : Nat → Prop) (w : World) (S : Nat → Prop) (codes : List Int) (kbs : List Nat) (vf : Value) (bx kb : Nat) (c : Int) (w₁ : World) : Prop where
  j : FL Shun w S codes kbs vf w₁
  cell : w₁.cell? ⟨bx, 0, none⟩ = some (fnV kb)
  low : ¬ S bx
  new : Cel S kb (.int .u8 c) w₁
section
variable {Shun S S' : Nat → Prop} {w w₁ w₂ : World} {codes : List Int} {kbs : List Nat} {vf : Value} {bx kb : Nat} {c : Int}
theorem FL.steady : Steady (FL Shun w S codes kbs vf) := fun _w d h => ⟨h.keep.at d, h.row, h.rowO, h.box, h.nz⟩
theorem FX.steady : Steady (FX Shun w S codes kbs vf bx kb c) := fun w d h => ⟨FL.steady w d h.j, h.cell, h.low, h.new⟩
theorem FL.rowS (h : FL Shun w S codes kbs vf w₁) : ∀ g, vf.ownBlock = some g → ¬ S g := fun g hg hs => by
  obtain ⟨cs, hc⟩ := row_tp h.row hg
  obtain ⟨cs', hc'⟩ := h.keep.s66 g hs
  rw [hc] at hc'
  cases hc'
theorem row_keep {t : TypeId} {n : Nat} {xs : List Value} (hr : w₁.ownsRow 0 t 1 vf n xs) (ht : t ≠ 66) (h66 : S66 S w₁) (k : Keep S w₁ S' w₂) : w₂.ownsRow 0 t 1 vf n xs := ownsRow_of hr fun g hg => by
  obtain ⟨cs, hc⟩ := row_tp hr hg
  refine k.out.blk g (Array.getElem?_eq_some_iff.1 hc).1 fun _ hs => ?_
  obtain ⟨cs', hc'⟩ := h66 g hs
  rw [hc] at hc'
  cases hc'
  exact ht rfl
theorem FL.next (h : FL Shun w S codes kbs vf w₁) (k : Keep S w₁ S' w₂) : FL Shun w S' codes kbs vf w₂ := ⟨h.keep.trans k, row_keep h.row (by decide) h.keep.s66 k, h.rowO, fun s kk hk => (h.box s kk hk).keep k, h.nz⟩
theorem FX.make (h : FL Shun w S codes kbs vf w₁) (hc : Cel S kb (.int .u8 c) w₁) : FX Shun w S codes kbs vf w₁.heap.size kb c (w₁.alloc (.cells #[fnV kb] 28)) := by
  have hn := heap_alloc_new w₁ (Obj.cells #[fnV kb] 28)
  have k := (Keep.refl h.keep.s66).alloc (.cells #[fnV kb] 28)
  exact ⟨h.next k, by unfold World.cell?; rw [hn]; rfl, fun hs => Nat.lt_irrefl _ (h.keep.s66.lt hs), hc.keep k⟩
theorem cel_grown {b n : Nat} {u : Value} {ks : List Nat} (h : Cel S b (.int .u8 c) w₁) (hgr : w₁.grownBy w₂ u.ownBlock) (hr : w₁.ownsRow 0 28 1 u n (ks.map fnV)) (nz : ∀ g, u.ownBlock = some g → 0 < n) : Cel S b (.int .u8 c) w₂ := ⟨h.1, (cell?_eq (hgr.block b (cell_lt h.2) fun e => by
  have hn := nz b e.symm
  have hl := hr.1
  rcases hr.2 with ⟨e', _⟩ | ⟨g, cap, cur, e', _⟩
  · rw [e'] at e; cases e
  · rw [e'] at e hr
    cases e
    have h0 : (ks.map fnV)[0]? = some (fnV (ks[0]'(by simp at hl; omega))) := by rw [List.getElem?_map, List.getElem?_eq_getElem (by simp at hl; omega)]; rfl
    have := row_get hr h0
    rw [h.2] at this
    cases this) 0).trans h.2⟩
theorem FX.appended {v' : Value} (h : FX Shun w S codes kbs vf bx kb c w₁) (hx : codes[kbs.length]? = some c) (hgr : w₁.grownBy w₂ vf.ownBlock) (hrow : w₂.ownsRow 0 28 1 v' (kbs.length + 1) (kbs.map fnV ++ [fnV kb])) (hown : ∀ g, v'.ownBlock = some g → vf.ownBlock = some g ∨ (w₁.heap.size ≤ g ∧ g < w₂.heap.size)) : FL Shun w S codes (kbs ++ [kb]) v' w₂ := by
  refine ⟨h.j.keep.grown hgr h.j.row (by decide) h.j.rowO, by simpa using hrow, fun g hg => ?_, fun s k hk => ?_, fun g hg => by simp⟩
  · rcases hown g hg with e | e
    · exact h.j.rowO g e
    · exact Nat.le_trans h.j.keep.out.size e.1
  · rcases Nat.lt_or_ge s kbs.length with hs | hs
    · rw [List.getElem?_append_left hs] at hk
      exact cel_grown (h.j.box s k hk) hgr h.j.row h.j.nz
    · rw [List.getElem?_append_right hs] at hk
      have hs' : s = kbs.length := by
        rcases Nat.eq_zero_or_pos (s - kbs.length) with x | x
        · omega
        · rw [List.getElem?_eq_none (by simp; omega)] at hk; cases hk
      subst hs'
      simp only [Nat.sub_self, List.getElem?_cons_zero, Option.some.injEq] at hk
      subst hk
      rw [List.getD_eq_getElem?_getD, hx]
      exact cel_grown h.new hgr h.j.row h.j.nz
end

section
variable {Shun S : Nat → Prop} {w w₁ : World} {cs : List Frame} {kb kl i : Nat} {v1 v2 vf : Value} {fa fb fc ff : Option Addr} {ca cb cc na nb nc cf nf : Nat} {c : Int} {codes : List Int} {kbs : List Nat}
end
end Go.Proofs.Ytblpmdolclalnaa

namespace Go.Proofs.Ytblpmdolclalnaa
open Go.Conc

section
variable {Shun S : Nat → Prop} {w w₁ : World} {codes : List Int} {kbs : List Nat} {vf : Value}
theorem FL.form (h : FL Shun w S codes kbs vf w₁) : ∃ ff cf, vf = .slice ff kbs.length cf ∧ FnsAt S ff (fun s => kbs.getD s 0) kbs.length w₁ := by
  have hr := h.row
  rcases hr.2 with ⟨e, h0⟩ | ⟨g, c, cur, e, _⟩
  · exact ⟨none, 0, by rw [h0]; exact e, fun s hs => by omega⟩
  · refine ⟨_, c, e, fun s hs => ⟨g, 0, rfl, h.rowS g (by rw [e]; rfl), ?_⟩⟩
    rw [e] at hr
    have h0 : (kbs.map fnV)[s]? = some (fnV (kbs.getD s 0)) := by
      rw [List.getElem?_map, List.getElem?_eq_getElem hs, List.getD_eq_getElem?_getD, List.getElem?_eq_getElem hs]
      rfl
    rw [Nat.zero_add]
    exact row_get hr h0
theorem FL.cels (h : FL Shun w S codes kbs vf w₁) (hl : kbs.length = codes.length) : ∀ s, s < codes.length → Cel S (kbs.getD s 0) (.int .u8 (codes.getD s 0)) w₁ := fun s hs => by
  refine h.box s _ ?_
  rw [List.getD_eq_getElem?_getD, List.getElem?_eq_getElem (by omega)]
  rfl
end
theorem chainL_length : ∀ (l ns : List Int), (chainL l ns).length = ns.length := by
  intro l
  induction l with
  | nil => intro ns; rfl
  | cons a l ih => intro ns; show (chainL l (ns.map (applyP a))).length = _; rw [ih]; simp
end Go.Proofs.Ytblpmdolclalnaa

namespace Go.Proofs.Ytblpmdolclalnaa
open Go.Conc
theorem all_done {n : Nat} {L : Array Bool} (hs : L.size = n) (hc : ((List.range n).filter fun k => L.getD k false).length = n) : L = Array.replicate n true := by
  have h1 : ((List.range n).filter fun k => L.getD k false) = List.range n := List.Sublist.eq_of_length List.filter_sublist (by simpa using hc)
  refine Array.ext (by simp [hs]) fun i h3 h4 => ?_
  have h2 : i ∈ (List.range n).filter fun k => L.getD k false := by rw [h1]; simp; omega
  have := (List.mem_filter.1 h2).2
  simpa [Array.getD_eq_getD_getElem?, h3] using this
/-- Operation i waits for operation j. -/
def needs (ops : Array Oper) (i j : Nat) : Bool := ((ops[i]?).map fun o => o.after.toList.any fun e => e.on == j && Region.binds .any e).getD false
def orderly (ops : Array Oper) : Bool := (List.range ops.size).all fun i => ((ops[i]?).map fun o => o.after.toList.all fun e => !Region.binds .any e || decide (e.on < i)).getD false
theorem lin_next {ops : Array Oper} {L : Array Bool} {fuel t : Nat} (hord : orderly ops = true) (hs : L.size = ops.size) (hc : ((List.range ops.size).filter fun k => L.getD k false).length + (fuel + 1) = ops.size) :
    ∃ i t', i < ops.size ∧ L.getD i false = false ∧ (∀ j, needs ops i j = true → L.getD j false = true) ∧ lin ops (fuel + 1) t L = i :: lin ops fuel t' (L.setIfInBounds i true) := by
  have ho : ∀ (i : Nat) (o : Oper), ops[i]? = some o → ∀ e ∈ o.after, Region.binds .any e = true → e.on < i := by
    intro i o h e he hb
    have hi : i < ops.size := (Array.getElem?_eq_some_iff.1 h).1
    have := List.all_eq_true.1 hord i (by simpa using hi)
    rw [h] at this
    simp only [Option.map_some, Option.getD_some, List.all_eq_true] at this
    have h2 := this e (by simpa using he)
    rw [hb] at h2
    exact of_decide_eq_true (by simpa using h2)
  have hne : Region.ready .any ops L ≠ [] := by
    obtain ⟨i, hi, hLi, hmin⟩ : ∃ i, i < ops.size ∧ L.getD i false = false ∧ ∀ k, k < i → L.getD k false = true := by
      have hex : ∃ i, i < ops.size ∧ L.getD i false = false := by
        refine Classical.byContradiction fun hno => ?_
        have : ((List.range ops.size).filter fun k => L.getD k false) = List.range ops.size := List.filter_eq_self.2 fun k hk => by
          cases hx : L.getD k false with
          | true => rfl
          | false => exact absurd ⟨k, by simpa using hk, hx⟩ hno
        rw [this] at hc
        simp at hc
      have key : ∀ N, (∃ i, i < N ∧ i < ops.size ∧ L.getD i false = false) → ∃ i, i < ops.size ∧ L.getD i false = false ∧ ∀ k, k < i → L.getD k false = true := by
        intro N
        induction N with
        | zero => rintro ⟨i, hi, _⟩; omega
        | succ N ihN =>
          rintro ⟨i, hi, hi', hL⟩
          by_cases hx : ∃ k, k < N ∧ k < ops.size ∧ L.getD k false = false
          · exact ihN hx
          · refine ⟨i, hi', hL, fun k hk => ?_⟩
            cases hy : L.getD k false with
            | true => rfl
            | false => exact absurd ⟨k, by omega, by omega, hy⟩ hx
      obtain ⟨i, hi, hL⟩ := hex
      exact key (i + 1) ⟨i, by omega, hi, hL⟩
    have hmem : i ∈ Region.ready .any ops L := by
      unfold Region.ready
      refine List.mem_filter.2 ⟨by simpa using hi, ?_⟩
      have h1 : ops[i]? = some ops[i] := Array.getElem?_eq_getElem hi
      have hLt : L.getD i true = false := by
        have hlt : i < L.size := by omega
        simpa [Array.getD_eq_getD_getElem?, hlt] using hLi
      rw [hLt, h1]
      simp only [Bool.not_false, Bool.true_and, Option.map_some, Option.getD_some, Array.all_eq_true_iff_forall_mem]
      intro e he
      cases hb : Region.binds .any e with
      | false => rfl
      | true =>
        rw [hmin e.on (ho i _ h1 e he hb)]
        rfl
    exact fun h0 => by rw [h0] at hmem; cases hmem
  obtain ⟨i, hi, t', e⟩ := lin_succ (fuel := fuel) rfl hne t
  unfold Region.ready at hi
  obtain ⟨h1, h2⟩ := List.mem_filter.1 hi
  have hin : i < ops.size := by simpa using h1
  have h3 : ops[i]? = some ops[i] := Array.getElem?_eq_getElem hin
  rw [h3] at h2
  simp only [Option.map_some, Option.getD_some, Bool.and_eq_true, Bool.not_eq_true', Array.all_eq_true_iff_forall_mem] at h2
  refine ⟨i, t', hin, ?_, fun j hj => ?_, e⟩
  · have hlt : i < L.size := by omega
    have := h2.1
    simpa [Array.getD_eq_getD_getElem?, hlt] using this
  · unfold needs at hj
    rw [h3] at hj
    simp only [Option.map_some, Option.getD_some, List.any_eq_true] at hj
    obtain ⟨m, hm, hx⟩ := hj
    simp only [Bool.and_eq_true, beq_iff_eq] at hx
    have := h2.2 m (by simpa using hm)
    rw [hx.2, hx.1] at this
    simpa using this
theorem fillD_congr {T0 : Array Value} {d : Nat → Nat} {val val' : Nat → Value} {D : Array Bool} (h : ∀ j, D.getD j false = true → val' j = val j) : ∀ n, fillD T0 d val' D n = fillD T0 d val D n
  | 0 => rfl
  | n + 1 => by
    rw [fillD_succ, fillD_succ, fillD_congr h n]
    split
    · rename_i hd
      rw [h n hd]
    · rfl
/-- What is asked of each operation. -/
structure DrawR (P : Program) (N0 : Nat) (Q : (Nat → Prop) → Goroutine → World → Prop) {Γ : Type} (b : Frame) (ops : Array Oper) (T0 : Array Value) (d : Nat → Nat) (val : Γ → Nat → Value) (I : Array Bool → Γ → (Nat → Prop) → World → Prop) (k : List Item) (cs : List Frame) : Prop where
  ord : orderly ops = true
  inj : ∀ a c, a < ops.size → c < ops.size → d a = d c → a = c
  low : ∀ i, i < ops.size → d i < T0.size
  step : ∀ (i : Nat) (L : Array Bool) (γ : Γ) (S : Nat → Prop) (w : World) (rest : List Nat) (T : Array Value), i < ops.size → L.size = ops.size → L.getD i false = false → (∀ j, needs ops i j = true → L.getD j false = true) → (∀ a c, L.getD a false = true → needs ops a c = true → L.getD c false = true) →
    (∀ j, j < ops.size → L.getD j false = true → T[d j]? = some (val γ j)) → (∀ m, (∀ j, j < ops.size → d j ≠ m) → T[m]? = T0[m]?) → I L γ S w →
    (∀ γ' S' w', (∀ j, L.getD j false = true → val γ' j = val γ j) → I (L.setIfInBounds i true) γ' S' w' → Lone P N0 Q S' (G (b.at ⟨T.setIfInBounds (d i) (val γ' i), []⟩ (.inRegion ops rest :: k)) cs) w') →
    Lone P N0 Q S (G (b.at ⟨T, []⟩ (.inRegion ops (i :: rest) :: k)) cs) w
section
variable {P : Program} {N0 : Nat} {Q : (Nat → Prop) → Goroutine → World → Prop} {Γ : Type} {b : Frame} {ops : Array Oper} {T0 T : Array Value} {d : Nat → Nat} {val : Γ → Nat → Value} {I : Array Bool → Γ → (Nat → Prop) → World → Prop} {k : List Item} {cs : List Frame} {S : Nat → Prop} {w : World}
theorem lone_lin (hR : DrawR P N0 Q b ops T0 d val I k cs) (hend : ∀ γ S w, I (Array.replicate ops.size true) γ S w → Lone P N0 Q S (G (b.at ⟨fillD T0 d (val γ) (Array.replicate ops.size true) ops.size, []⟩ (.inRegion ops [] :: k)) cs) w) :
    ∀ (fuel : Nat) (L : Array Bool) (t : Nat) (γ : Γ) (S : Nat → Prop) (w : World), L.size = ops.size → ((List.range ops.size).filter fun k => L.getD k false).length + fuel = ops.size → (∀ a c, L.getD a false = true → needs ops a c = true → L.getD c false = true) → I L γ S w →
      Lone P N0 Q S (G (b.at ⟨fillD T0 d (val γ) L ops.size, []⟩ (.inRegion ops (lin ops fuel t L) :: k)) cs) w := by
  intro fuel
  induction fuel with
  | zero =>
    intro L t γ S w hs hc hcl hI
    rw [all_done hs hc] at hI ⊢
    rw [lin_zero]
    exact hend γ S w hI
  | succ fuel ih =>
    intro L t γ S w hs hc hcl hI
    obtain ⟨i, t', hi, hL, hn, e⟩ := lin_next hR.ord hs hc (t := t)
    rw [e]
    refine hR.step i L γ S w _ _ hi hs hL hn hcl (fun j hj hLj => fillD_at hLj (hR.low j hj) _ (fun a ha e => hR.inj a j ha hj e) hj) (fun m hm => fillD_else _ fun j hj _ => hm j hj) hI fun γ' S' w' hv hI' => ?_
    have e2 : (fillD T0 d (val γ) L ops.size).setIfInBounds (d i) (val γ' i) = fillD T0 d (val γ') (L.setIfInBounds i true) ops.size := by
      rw [← fillD_congr hv, fillD_step hR.inj hi hs hL]
    rw [e2]
    refine ih _ t' γ' S' w' (by simp [hs]) (by rw [count_set hi hs hL]; omega) (fun a c ha hac => ?_) hI'
    rw [getD_set] at ha ⊢
    split
    · rfl
    · split at ha
      · rename_i h1
        rw [h1.1] at hac
        exact hn c hac
      · exact hcl a c ha hac
theorem lone_draw (hm : P.follows .mixedOrders = true) {id : Nat} {γ : Γ} (hR : DrawR P N0 Q b ops T0 d val I k cs) (hI : ∀ w₁, AtRel w w₁ → I (Array.replicate ops.size false) γ S w₁)
    (hend : ∀ γ S w, I (Array.replicate ops.size true) γ S w → Lone P N0 Q S (G (b.at ⟨fillD T0 d (val γ) (Array.replicate ops.size true) ops.size, []⟩ (.inRegion ops [] :: k)) cs) w) :
    Lone P N0 Q S (G (b.at ⟨T0, []⟩ (.code (.region id ops true) :: k)) cs) w := by
  have hno : ∀ j, (Array.replicate ops.size false).getD j false = false := fun j => by
    simp only [Array.getD_eq_getD_getElem?, Array.getElem?_replicate]
    split <;> rfl
  refine Lone.on (n := 1) (goes_draw hm (fun w => ⟨Nat.le_refl _, fun e he => by simp at he⟩) fun w₁ h₁ t => Goes.stop fun w₂ h₂ _ => ?_)
  have e : fillD T0 d (val γ) (Array.replicate ops.size false) ops.size = T0 := by
    refine Array.ext_getElem? fun j => fillD_else _ fun i hi hx => ?_
    rw [hno] at hx; cases hx
  have h3 : AtRel w w₂ := by
    obtain ⟨d1, rfl⟩ := h₁
    obtain ⟨d2, rfl⟩ := h₂
    exact ⟨d2, rfl⟩
  have := lone_lin hR hend ops.size (Array.replicate ops.size false) t γ S w₂ (by simp) (by
    have : ((List.range ops.size).filter fun k => (Array.replicate ops.size false).getD k false) = [] := List.filter_eq_nil_iff.2 fun a _ => by rw [hno]; simp
    rw [this]; simp) (fun a c ha => by rw [hno] at ha; cases ha) (hI w₂ h3)
  rw [e] at this
  exact this

/-! ### Single operations -/
theorem op_at {ops : Array Oper} {i : Nat} {g : Option (Nat × Bool)} {d : Option Tmp} {op : Op} {ty : TypeId} (h : (ops[i]?).map (fun o => (o.guard, o.dst, o.op, o.type)) = some (g, d, op, ty)) : ∃ pos after, ops[i]? = some ⟨d, op, ty, pos, after, g⟩ := by
  rcases hx : ops[i]? with _ | ⟨d', op', ty', pos, after, g'⟩
  · rw [hx] at h; cases h
  · rw [hx] at h
    simp only [Option.map_some, Option.some.injEq, Prod.mk.injEq] at h
    obtain ⟨rfl, rfl, rfl, rfl⟩ := h
    exact ⟨pos, after, rfl⟩
variable {i : Nat} {o : Oper} {rest : List Nat} {u : Value} {t : Nat}
theorem lone_pure (ho : ops[i]? = some o) (hg : o.guard = none) (hd : o.dst = some t) (hkd : b.kind ≠ .early) (hr : ∀ w₁, AtRel w w₁ → (execOp (⟨T, []⟩ : Act).eval o).run P w₁ = .ok (.value u) w₁ ∧ SD S w₁ w₁ (listed P b.fn ⟨T, []⟩ o w₁))
    (hgo : ∀ w₁, AtRel w w₁ → Lone P N0 Q S (G (b.at ⟨T.setIfInBounds t u, []⟩ (.inRegion ops rest :: k)) cs) w₁) : Lone P N0 Q S (G (b.at ⟨T, []⟩ (.inRegion ops (i :: rest) :: k)) cs) w := by
  refine Lone.on (n := 1) (Goes.step rfl fun w₁ h₁ => ?_)
  obtain ⟨h2, h3⟩ := hr w₁ h₁
  rw [stepG_value ho (by simp [Region.wanted, hg]) hkd h2]
  refine ⟨h3, Goes.stop fun w₂ h₂ _ => ?_⟩
  have e : (⟨T, []⟩ : Act).put o.dst u = ⟨T.setIfInBounds t u, []⟩ := by rw [hd]; rfl
  rw [e]
  exact hgo w₂ (AtRel.steady.rel h₁ h₂)
theorem lone_enter {f : FuncId} {fn : Func} {c : Code} {args : Array Operand} {ats : Array TypeId} {U : Array Value} (ho : ops[i]? = some o) (hg : o.guard = none) (hkd : b.kind ≠ .early) (hop : o.op = .call { callee := .value (.func f), args, argTypes := ats })
    (hf : P.funcs[f]? = some fn) (hname : (fn.name == "runtime.NumGoroutine") = false) (hb : fn.body = some c) (hU : args.map (⟨T, []⟩ : Act).eval ++ Array.replicate (fn.ntmps - (args.map (⟨T, []⟩ : Act).eval).size) undef = U)
    (hgo : ∀ w₁, AtRel w w₁ → Lone P N0 Q S (G ((base f).at ⟨U, []⟩ [.code c]) (b.at ⟨T, []⟩ (.inRegion ops (i :: rest) :: k) :: cs)) w₁) : Lone P N0 Q S (G (b.at ⟨T, []⟩ (.inRegion ops (i :: rest) :: k)) cs) w := by
  refine Lone.on (n := 1) (Goes.step rfl fun w₁ h₁ => goes_call ho (by simp [Region.wanted, hg]) hkd hop hf hname hb ⟨sd_idle _, ?_⟩)
  rw [hU]
  exact Goes.stop fun w₂ h₂ _ => hgo w₂ (AtRel.steady.rel h₁ h₂)
/-- What is known within the region: a frame J, the iterator's box (operation iq made it), the call's result (operation ic), a function's row (operation ib). -/
structure Dr (J : (Nat → Prop) → World → Prop) (iq ic ib : Nat) (lst fv : Value) (ys : List Int) (L : Array Bool) (γ : Nat × Value × Nat) (S : Nat → Prop) (w : World) : Prop where
  j : J S w
  seq : L.getD iq false = true → Cel S γ.1 lst w
  got : L.getD ic false = true → Got w γ.2.1 ys
  box : L.getD ib false = true → Cel S γ.2.2 fv w
section
variable {J : (Nat → Prop) → World → Prop} {iq ic ib : Nat} {lst fv v : Value} {ys : List Int} {L : Array Bool} {γ : Nat × Value × Nat} {S' : Nat → Prop} {w' : World} {kb : Nat}
theorem Dr.pure (h : Dr J iq ic ib lst fv ys L γ S w) (h66 : S66 S w) (hJ : ∀ S w S' w', J S w → Keep S w S' w' → J S' w') (k : Keep S w S' w') (hi : i ≠ iq ∧ i ≠ ic ∧ i ≠ ib) : Dr J iq ic ib lst fv ys (L.setIfInBounds i true) γ S' w' := by
  refine ⟨hJ _ _ _ _ h.j k, fun x => (h.seq ?_).keep k, fun x => (h.got ?_).keep k h66, fun x => (h.box ?_).keep k⟩
  · rwa [getD_set, if_neg (fun e => hi.1 e.1.symm)] at x
  · rwa [getD_set, if_neg (fun e => hi.2.1 e.1.symm)] at x
  · rwa [getD_set, if_neg (fun e => hi.2.2 e.1.symm)] at x
theorem Dr.seqed (h : Dr J iq ic ib lst fv ys L γ S w) (h66 : S66 S w) (hJ : ∀ S w S' w', J S w → Keep S w S' w' → J S' w') (k : Keep S w S' w') (hi : iq ≠ ic ∧ iq ≠ ib) (hc : Cel S' kb lst w') : Dr J iq ic ib lst fv ys (L.setIfInBounds iq true) (kb, γ.2) S' w' := by
  refine ⟨hJ _ _ _ _ h.j k, fun _ => hc, fun x => (h.got ?_).keep k h66, fun x => (h.box ?_).keep k⟩
  · rwa [getD_set, if_neg (fun e => hi.1 e.1.symm)] at x
  · rwa [getD_set, if_neg (fun e => hi.2 e.1.symm)] at x
theorem Dr.called (h : Dr J iq ic ib lst fv ys L γ S w) (hJ : ∀ S w S' w', J S w → Keep S w S' w' → J S' w') (k : Keep S w S' w') (hi : ic ≠ iq ∧ ic ≠ ib) (hc : Got w' v ys) : Dr J iq ic ib lst fv ys (L.setIfInBounds ic true) (γ.1, v, γ.2.2) S' w' := by
  refine ⟨hJ _ _ _ _ h.j k, fun x => (h.seq ?_).keep k, fun _ => hc, fun x => (h.box ?_).keep k⟩
  · rwa [getD_set, if_neg (fun e => hi.1 e.1.symm)] at x
  · rwa [getD_set, if_neg (fun e => hi.2 e.1.symm)] at x
theorem Dr.boxed (h : Dr J iq ic ib lst fv ys L γ S w) (h66 : S66 S w) (hJ : ∀ S w S' w', J S w → Keep S w S' w' → J S' w') (k : Keep S w S' w') (hi : ib ≠ iq ∧ ib ≠ ic) (hc : Cel S' kb fv w') : Dr J iq ic ib lst fv ys (L.setIfInBounds ib true) (γ.1, γ.2.1, kb) S' w' := by
  refine ⟨hJ _ _ _ _ h.j k, fun x => (h.seq ?_).keep k, fun x => (h.got ?_).keep k h66, fun _ => hc⟩
  · rwa [getD_set, if_neg (fun e => hi.1 e.1.symm)] at x
  · rwa [getD_set, if_neg (fun e => hi.2 e.1.symm)] at x
theorem Dr.first (h : J S w) (n : Nat) : Dr J iq ic ib lst fv ys (Array.replicate n false) γ S w := by
  have hno : ∀ j, (Array.replicate n false).getD j false = false := fun j => by
    simp only [Array.getD_eq_getD_getElem?, Array.getElem?_replicate]
    split <;> rfl
  exact ⟨h, fun x => by rw [hno] at x; (cases x), fun x => by rw [hno] at x; (cases x), fun x => by rw [hno] at x; (cases x)⟩
end
end
section
variable {N0 : Nat} {Q : (Nat → Prop) → Goroutine → World → Prop} {b : Frame} {ops : Array Oper} {T : Array Value} {k : List Item} {cs : List Frame} {S : Nat → Prop} {w : World} {i s s1 s2 t : Nat} {o : Oper} {rest : List Nat} {fa ff : Option Addr} {cap capf kl K kb : Nat} {c : Int} {codes ns : List Int} {kf : Nat → Nat} {ats : Array TypeId}
theorem events_sliceH {a : Option Addr} {n c h : Nat} {es : Array Event} (hc : h ≤ c) : (Instr.sliceAt 37 (.slice a n c) none (some (.int .i64 h)) none).events Try.prog w es = es := by
  have h2 : (0 : Int) ≤ (h : Int) ∧ (h : Int) ≤ (c : Int) := by omega
  simp [Instr.sliceAt, Instr.slice, Instr.sliceBounds, Instr.sliceBound, asIntOf, run_underlying Try.underlying37, hc, h2, go_sem]
theorem events_sliceL {a : Option Addr} {n c h : Nat} {es : Array Event} (hc : h ≤ n) : (Instr.sliceAt 37 (.slice a n c) (some (.int .i64 h)) none none).events Try.prog w es = es := by
  have h2 : (0 : Int) ≤ (h : Int) ∧ (h : Int) ≤ (n : Int) := by omega
  simp [Instr.sliceAt, Instr.slice, Instr.sliceBounds, Instr.sliceBound, asIntOf, run_underlying Try.underlying37, hc, h2, go_sem]
/-- A row of one function is made. -/
theorem lone_box (h66 : S66 S w) (ho : ops[i]? = some o) (hg : o.guard = none) (hd : o.dst = some t) (hkd : b.kind ≠ .early) (hop : o.op = .buildSlice 37 1 #[(0, .tmp s)]) (hs : T[s]? = some (fnV kb))
    (hgo : ∀ kb' w', Keep S w S w' → Cel S kb' (fnV kb) w' → Lone Try.prog N0 Q S (G (b.at ⟨T.setIfInBounds t (.slice (some ⟨kb', 0, none⟩) 1 1), []⟩ (.inRegion ops rest :: k)) cs) w') : Lone Try.prog N0 Q S (G (b.at ⟨T, []⟩ (.inRegion ops (i :: rest) :: k)) cs) w := by
  refine Lone.on (n := 1) (Goes.step rfl fun w₁ h₁ => ?_)
  have hr : (execOp (⟨T, []⟩ : Act).eval o).run Try.prog w₁ = .ok (.value (.slice (some ⟨w₁.heap.size, 0, none⟩) 1 1)) (w₁.alloc (.cells #[fnV kb] 28)) := by
    unfold execOp
    rw [hop]
    simp [go_sem, hs, fnV]
  rw [stepG_value ho (by simp [Region.wanted, hg]) hkd hr]
  refine ⟨sd_new (by simp) (fun e he => ?_), ?_⟩
  · have hm := mem_listed he
    unfold execOp at hm
    rw [hop] at hm
    simp [go_sem, hs, fnV] at hm
  have e : (⟨T, []⟩ : Act).put o.dst (.slice (some ⟨w₁.heap.size, 0, none⟩) 1 1) = ⟨T.setIfInBounds t (.slice (some ⟨w₁.heap.size, 0, none⟩) 1 1), []⟩ := by rw [hd]; rfl
  rw [e]
  obtain ⟨k1, c1⟩ := keep_box (v := fnV kb) (t := 28) h66 h₁
  refine Goes.stop fun w₂ h₂ _ => hgo _ _ (by obtain ⟨d, rfl⟩ := h₂; exact k1.at d) (by obtain ⟨d, rfl⟩ := h₂; exact c1)
/-- A list's iterator is made. -/
theorem lone_seq {n : Nat} (h66 : S66 S w) (hN : N0 ≤ w.heap.size) (ho : ops[i]? = some o) (hg : o.guard = none) (hd : o.dst = some t) (hkd : b.kind ≠ .early) (hop : o.op = .call { callee := .value (.func 13), args := #[.tmp s], argTypes := ats }) (hs : T[s]? = some (.slice fa n cap))
    (hgo : ∀ S' kb w', Keep S w S' w' → Cel S' kb (.slice fa n cap) w' → Lone Try.prog N0 Q S' (G (b.at ⟨T.setIfInBounds t (seqV kb), []⟩ (.inRegion ops rest :: k)) cs) w') : Lone Try.prog N0 Q S (G (b.at ⟨T, []⟩ (.inRegion ops (i :: rest) :: k)) cs) w := by
  refine lone_enter ho hg hkd hop Try.func13 rfl rfl (U := #[.slice fa n cap, undef, undef, undef]) (by simp [Act.eval, hs, Try.f13]) fun w₁ h₁ => ?_
  have k1 := keep_refl_at h66 h₁
  refine (fn13 k1.s66).next (Nat.le_trans hN k1.out.size) fun S3 g3 w3 h3 => ?_
  obtain ⟨k3, kb, c3, rfl⟩ := h3
  rw [ho]
  simp only [Option.bind_some, hd, Act.put]
  exact hgo S3 kb w3 (k1.trans k3) c3
/-- A call of Chain. -/
theorem lone_chain (h66 : S66 S w) (hN : N0 ≤ w.heap.size) (ho : ops[i]? = some o) (hg : o.guard = none) (hd : o.dst = some t) (hkd : b.kind ≠ .early) (hop : o.op = .call { callee := .value (.func 16), args := #[.tmp s, .tmp s1], argTypes := ats }) (hs : T[s]? = some (seqV kl)) (hs1 : T[s1]? = some (.slice ff codes.length capf))
    (hc : ∀ c ∈ codes, 0 ≤ c ∧ c < 256) (hK : codes.length ≤ 16) (hn : ns.length ≤ 900000) (hf : ∀ s, s < codes.length → Cel S (kf s) (.int .u8 (codes.getD s 0)) w) (hfs : FnsAt S ff kf codes.length w) (hi : Cel S kl (.slice fa ns.length cap) w) (hL : Ls S fa (ints ns) w)
    (hgo : ∀ S' v w', Keep S w S' w' → Got w' v (chainL codes ns) → Lone Try.prog N0 Q S' (G (b.at ⟨T.setIfInBounds t (.tuple #[v, .int .i64 0]), []⟩ (.inRegion ops rest :: k)) cs) w') : Lone Try.prog N0 Q S (G (b.at ⟨T, []⟩ (.inRegion ops (i :: rest) :: k)) cs) w := by
  refine lone_enter ho hg hkd hop Try.func16 rfl rfl (U := #[seqV kl, .slice ff codes.length capf, undef, undef, undef, undef, undef, undef, undef, undef, undef, undef, undef, undef, undef, undef, undef, undef, undef, undef, undef, undef, undef, undef, undef, undef, undef, undef, undef, undef, undef, undef, undef, undef, undef, undef, undef, undef, undef, undef, undef, undef, undef, undef, undef, undef, undef, undef, undef]) (by simp [Act.eval, hs, hs1, Try.f16]) fun w₁ h₁ => ?_
  have k1 := keep_refl_at h66 h₁
  refine (chain_law (codes := codes) (ns := ns) (kf := kf) k1.s66 hc hK hn (fun s h => (hf s h).keep k1) (by obtain ⟨d, rfl⟩ := h₁; exact hfs) (hi.keep k1) (hL.keep k1)).next (Nat.le_trans hN k1.out.size) fun S3 g3 w3 h3 => ?_
  obtain ⟨k3, v, r3, rfl⟩ := h3
  rw [ho]
  simp only [Option.bind_some, hd, Act.put]
  exact hgo S3 v w3 (k1.trans k3) r3
/-- A call of Map. -/
theorem lone_map (h66 : S66 S w) (hN : N0 ≤ w.heap.size) (ho : ops[i]? = some o) (hg : o.guard = none) (hd : o.dst = some t) (hkd : b.kind ≠ .early) (hop : o.op = .call { callee := .value (.func 11), args := #[.tmp s, .tmp s1, .tmp s2], argTypes := ats }) (hs : T[s]? = some (.int .i64 K)) (hs1 : T[s1]? = some (fnV kb)) (hs2 : T[s2]? = some (seqV kl))
    (hc : 0 ≤ c ∧ c < 256) (hK1 : 0 < K) (hK : K ≤ 16) (hn : ns.length ≤ 900000) (hf : Cel S kb (.int .u8 c) w) (hi : Cel S kl (.slice fa ns.length cap) w) (hL : Ls S fa (ints ns) w)
    (hgo : ∀ S' v w', Keep S w S' w' → Got w' v (ns.map (applyP c)) → Lone Try.prog N0 Q S' (G (b.at ⟨T.setIfInBounds t (.tuple #[v, .int .i64 0]), []⟩ (.inRegion ops rest :: k)) cs) w') : Lone Try.prog N0 Q S (G (b.at ⟨T, []⟩ (.inRegion ops (i :: rest) :: k)) cs) w := by
  refine lone_enter (c := bodyM) ho hg hkd hop Try.func11 rfl rfl (U := #[.int .i64 K, fnV kb, seqV kl, undef, undef, undef, undef, undef, undef, undef, undef, undef, undef, undef, undef, undef, undef, undef, undef, undef, undef, undef, undef, undef, undef, undef, undef, undef, undef, undef, undef, undef, undef, undef, undef, undef, undef, undef, undef, undef, undef, undef, undef, undef, undef, undef, undef, undef, undef, undef, undef, undef, undef, undef, undef, undef, undef, undef, undef, undef, undef, undef, undef, undef]) (by simp [Act.eval, hs, hs1, hs2, Try.f11]) fun w₁ h₁ => ?_
  have k1 := keep_refl_at h66 h₁
  refine (map_law (ns := ns) k1.s66 hc hK1 hK hn (hf.keep k1) (hi.keep k1) (hL.keep k1)).next (Nat.le_trans hN k1.out.size) fun S3 g3 w3 h3 => ?_
  obtain ⟨k3, v, r3, rfl⟩ := h3
  rw [ho]
  simp only [Option.bind_some, hd, Act.put]
  exact hgo S3 v w3 (k1.trans k3) r3
end
end Go.Proofs.Ytblpmdolclalnaa
