/- A region that draws its order and only reads: whatever the order, the same values come. Conditions: each operation's value is known as soon as those that it waits for are done. Goroutine 0 alone: what a call keeps of the memory; the laws' small functions: function, seq, small, the reference's Equal. Made by gen_laa.py. Goroutine 0 alone: the laws' function small, the reference's Equal. Made by gen_lab.py. Goroutine 0 alone: the reference's Equal. Made by gen_lac.py. Chain[int]: the calls that are refused: a nil iterator, too many functions, a nil function. Made by gen_cmn.py. Goroutine 0 alone: the reference's Map. Made by gen_lad.py. Goroutine 0 alone: an append of a whole slice; the reference's Chain. Made by gen_lae.py. -/
import Derived.Test.YtblpmdolclalnaaD01
import Derived.Test.YtblpmdolclalnaaD08
import Derived.Test.YtblpmdolclalnaaD18
import Derived.Test.YtblpmdolclalnaaD22
namespace Go.Proofs.Ytblpmdolclalnaa
open Go.Conc
/-- The slots when the operations of D are done. -/
def fillD (T0 : Array Value) (d : Nat → Nat) (val : Nat → Value) (D : Array Bool) (n : Nat) : Array Value := (List.range n).foldl (fun T i => if D.getD i false = true then T.setIfInBounds (d i) (val i) else T) T0
section
variable {T0 : Array Value} {d : Nat → Nat} {val : Nat → Value} {D : Array Bool} {n : Nat}
theorem fillD_succ : fillD T0 d val D (n + 1) = if D.getD n false = true then (fillD T0 d val D n).setIfInBounds (d n) (val n) else fillD T0 d val D n := by
  simp only [fillD, List.range_succ, List.foldl_append, List.foldl_cons, List.foldl_nil]
theorem fillD_size : ∀ n, (fillD T0 d val D n).size = T0.size
  | 0 => rfl
  | n + 1 => by rw [fillD_succ]; split <;> simp [fillD_size n]
theorem fillD_else {j : Nat} : ∀ n, (∀ i, i < n → D.getD i false = true → d i ≠ j) → (fillD T0 d val D n)[j]? = T0[j]?
  | 0, _ => rfl
  | n + 1, h => by
    rw [fillD_succ]
    split
    · rename_i hd
      rw [Array.getElem?_setIfInBounds_ne (h n (Nat.lt_succ_self n) hd)]
      exact fillD_else n fun i hi => h i (Nat.lt_succ_of_lt hi)
    · exact fillD_else n fun i hi => h i (Nat.lt_succ_of_lt hi)
theorem fillD_at {i : Nat} (hD : D.getD i false = true) (hb : d i < T0.size) : ∀ n, (∀ k, k < n → d k = d i → k = i) → i < n → (fillD T0 d val D n)[d i]? = some (val i)
  | 0, _, h => absurd h (Nat.not_lt_zero _)
  | n + 1, hinj, h => by
    rw [fillD_succ]
    by_cases e : n = i
    · subst e
      rw [if_pos hD, Array.getElem?_setIfInBounds_self_of_lt (by rw [fillD_size]; exact hb)]
    · have ih := fillD_at hD hb n (fun k hk => hinj k (Nat.lt_succ_of_lt hk)) (by omega)
      split
      · rw [Array.getElem?_setIfInBounds_ne (fun x => e (hinj n (Nat.lt_succ_self n) x))]
        exact ih
      · exact ih
theorem getD_set {i k : Nat} : (D.setIfInBounds i true).getD k false = if k = i ∧ i < D.size then true else D.getD k false := by
  simp only [Array.getD_eq_getD_getElem?, Array.getElem?_setIfInBounds]
  by_cases e : i = k
  · subst e
    by_cases h : i < D.size
    · simp [h]
    · simp [h]
  · simp [e, Ne.symm e]
theorem fillD_step {i : Nat} (hinj : ∀ a b, a < n → b < n → d a = d b → a = b) (hi : i < n) (hs : D.size = n) (_hf : D.getD i false = false) :
    (fillD T0 d val D n).setIfInBounds (d i) (val i) = fillD T0 d val (D.setIfInBounds i true) n := by
  refine Array.ext_getElem? fun j => ?_
  by_cases hj : d i = j
  · subst hj
    by_cases hb : d i < T0.size
    · rw [Array.getElem?_setIfInBounds_self_of_lt (by rw [fillD_size]; exact hb), fillD_at (by rw [getD_set]; simp [hs, hi]) hb n (fun k hk e => hinj k i hk hi e) hi]
    · rw [Array.getElem?_eq_none (by simp [fillD_size]; omega), Array.getElem?_eq_none (by simp [fillD_size]; omega)]
  · rw [Array.getElem?_setIfInBounds_ne hj]
    by_cases h : ∃ k, k < n ∧ D.getD k false = true ∧ d k = j
    · obtain ⟨k, hk, hDk, rfl⟩ := h
      by_cases hb : d k < T0.size
      · rw [fillD_at hDk hb n (fun a ha e => hinj a k ha hk e) hk, fillD_at (by rw [getD_set, hDk]; simp) hb n (fun a ha e => hinj a k ha hk e) hk]
      · rw [Array.getElem?_eq_none (by simp [fillD_size]; omega), Array.getElem?_eq_none (by simp [fillD_size]; omega)]
    · rw [fillD_else n (fun k hk hDk e => h ⟨k, hk, hDk, e⟩), fillD_else n (fun k hk hDk e => ?_)]
      rw [getD_set] at hDk
      split at hDk
      · rename_i hx
        exact hj (hx.1 ▸ e)
      · exact h ⟨k, hk, hDk, e⟩
theorem count_set {i : Nat} (hi : i < n) (hs : D.size = n) (hf : D.getD i false = false) : ((List.range n).filter fun k => (D.setIfInBounds i true).getD k false).length = ((List.range n).filter fun k => D.getD k false).length + 1 := by
  have key : ∀ m, ((List.range m).filter fun k => (D.setIfInBounds i true).getD k false).length = ((List.range m).filter fun k => D.getD k false).length + (if i < m then 1 else 0) := by
    intro m
    induction m with
    | zero => simp
    | succ m ih =>
      simp only [List.range_succ, List.filter_append, List.length_append, ih]
      by_cases e : m = i
      · subst e
        have h1 : (D.setIfInBounds m true).getD m false = true := by rw [getD_set]; simp [hs, hi]
        simp only [List.filter_cons, List.filter_nil, h1, hf]
        simp
      · have h1 : (D.setIfInBounds i true).getD m false = D.getD m false := by rw [getD_set]; simp [e]
        have h2 : (i < m + 1) ↔ i < m := by omega
        simp only [List.filter_cons, List.filter_nil, h1, h2]
        omega
  rw [key n, if_pos hi]
end

section
variable {P : Program} {main : Bool} {R : World → World → Prop} {D : World → World → Array Event → Prop} {Stop : Goroutine → World → Prop}
theorem goes_draw (hm : P.follows .mixedOrders = true) (hd : ∀ w, D w { w with drawn := w.drawn + 1 } #[]) {b : Frame} {a : Act} {k : List Item} {cs : List Frame} {w : World} {id : Nat} {ops : Array Oper} {n : Nat}
    (h : ∀ w₁, R w w₁ → ∀ t, Goes P main R D Stop n (G (b.at a (.inRegion ops (lin ops ops.size t (Array.replicate ops.size false)) :: k)) cs) { w₁ with drawn := w₁.drawn + 1 }) :
    Goes P main R D Stop (n + 1) (G (b.at a (.code (.region id ops true) :: k)) cs) w :=
  Goes.step rfl fun w₁ h₁ => by
    rw [stepG_region_draw]
    refine ⟨hd _, ?_⟩
    have := h w₁ h₁ (w₁.tape w₁.drawn (.order b.fn id))
    simp only [Region.schedule, hm, Bool.true_or, if_true]
    exact this

/-- What is asked of each operation. -/
structure QuietR (P : Program) (fn : FuncId) (ops : Array Oper) (T0 : Array Value) (ds : List Deferred) (d : Nat → Nat) (val : Nat → Value) (F : World → Prop) (D : World → World → Array Event → Prop) : Prop where
  inj : ∀ a b, a < ops.size → b < ops.size → d a = d b → a = b
  low : ∀ i, i < ops.size → d i < T0.size
  dst : ∀ (i : Nat) (o : Oper), ops[i]? = some o → o.dst = some (d i) ∧ o.guard = none
  ord : ∀ (i : Nat) (o : Oper), ops[i]? = some o → ∀ e ∈ o.after, e.on < i
  runs : ∀ (i : Nat) (o : Oper) (T : Array Value) (w : World), ops[i]? = some o → F w → (∀ e ∈ o.after, Region.binds .any e = true → T[d e.on]? = some (val e.on)) → (∀ j, (∀ k, k < ops.size → d k ≠ j) → T[j]? = T0[j]?) →
    (execOp (⟨T, ds⟩ : Act).eval o).run P w = .ok (.value (val i)) w ∧ D w w (listed P fn ⟨T, ds⟩ o w)

theorem goes_quiet {b : Frame} {ops : Array Oper} {T0 : Array Value} {ds : List Deferred} {d : Nat → Nat} {val : Nat → Value} {F : World → Prop} (hQ : QuietR P b.fn ops T0 ds d val F D) (hkd : b.kind ≠ .early) (rl : ∀ {w w₁ : World}, F w → R w w₁ → F w₁) {k : List Item} {cs : List Frame} {m : Nat}
    (h : ∀ w, F w → Goes P main R D Stop m (G (b.at ⟨fillD T0 d val (Array.replicate ops.size true) ops.size, ds⟩ (.inRegion ops [] :: k)) cs) w) :
    ∀ (fuel : Nat) (L : Array Bool) (t : Nat) (w : World), L.size = ops.size → ((List.range ops.size).filter fun k => L.getD k false).length + fuel = ops.size → F w →
      Goes P main R D Stop (m + fuel) (G (b.at ⟨fillD T0 d val L ops.size, ds⟩ (.inRegion ops (lin ops fuel t L) :: k)) cs) w := by
  intro fuel
  induction fuel with
  | zero =>
    intro L t w hs hc hF
    have hall : ∀ i, i < ops.size → L.getD i false = true := by
      intro i hi
      have h1 : ((List.range ops.size).filter fun k => L.getD k false) = List.range ops.size := by
        refine List.Sublist.eq_of_length List.filter_sublist ?_
        simpa using hc
      have h2 : i ∈ (List.range ops.size).filter fun k => L.getD k false := by rw [h1]; simpa using hi
      simpa using (List.mem_filter.1 h2).2
    have e : L = Array.replicate ops.size true := by
      refine Array.ext (by simp [hs]) fun i h1 h2 => ?_
      have := hall i (by rw [← hs]; exact h1)
      simpa [Array.getD_eq_getD_getElem?, h1] using this
    rw [lin_zero, e]
    exact h w hF
  | succ fuel ih =>
    intro L t w hs hc hF
    -- something is ready
    have hne : Region.ready .any ops L ≠ [] := by
      obtain ⟨i, hi, hLi, hmin⟩ : ∃ i, i < ops.size ∧ L.getD i false = false ∧ ∀ k, k < i → L.getD k false = true := by
        have hex : ∃ i, i < ops.size ∧ L.getD i false = false := by
          refine Classical.byContradiction fun hno => ?_
          have : ((List.range ops.size).filter fun k => L.getD k false) = List.range ops.size := List.filter_eq_self.2 fun k hk => by
            cases hx : L.getD k false with
            | true => rfl
            | false => exact absurd ⟨k, by simpa using hk, hx⟩ hno
          rw [this] at hc
          simp at hc
        have key : ∀ N, (∃ i, i < N ∧ i < ops.size ∧ L.getD i false = false) → ∃ i, i < ops.size ∧ L.getD i false = false ∧ ∀ k, k < i → L.getD k false = true := by
          intro N
          induction N with
          | zero => rintro ⟨i, hi, _⟩; omega
          | succ N ihN =>
            rintro ⟨i, hi, hi', hL⟩
            by_cases hx : ∃ k, k < N ∧ k < ops.size ∧ L.getD k false = false
            · exact ihN hx
            · refine ⟨i, hi', hL, fun k hk => ?_⟩
              cases hy : L.getD k false with
              | true => rfl
              | false => exact absurd ⟨k, by omega, by omega, hy⟩ hx
        obtain ⟨i, hi, hL⟩ := hex
        exact key (i + 1) ⟨i, by omega, hi, hL⟩
      have hmem : i ∈ Region.ready .any ops L := by
        unfold Region.ready
        refine List.mem_filter.2 ⟨by simpa using hi, ?_⟩
        have ho : ops[i]? = some ops[i] := Array.getElem?_eq_getElem hi
        have hLt : L.getD i true = false := by
          have hlt : i < L.size := by omega
          simpa [Array.getD_eq_getD_getElem?, hlt] using hLi
        rw [hLt, ho]
        simp only [Bool.not_false, Bool.true_and, Option.map_some, Option.getD_some, Array.all_eq_true_iff_forall_mem]
        intro e he
        rw [hmin e.on (hQ.ord i _ ho e he)]
        simp
      exact fun h0 => by rw [h0] at hmem; cases hmem
    obtain ⟨i, hi, t', e⟩ := lin_succ (fuel := fuel) rfl hne t
    rw [e]
    -- i is ready
    unfold Region.ready at hi
    obtain ⟨h1, h2⟩ := List.mem_filter.1 hi
    have hin : i < ops.size := by simpa using h1
    have ho : ops[i]? = some ops[i] := Array.getElem?_eq_getElem hin
    rw [ho] at h2
    simp only [Option.map_some, Option.getD_some, Bool.and_eq_true, Bool.not_eq_true', Array.all_eq_true_iff_forall_mem] at h2
    have hLi : L.getD i false = false := by
      have hlt : i < L.size := by omega
      have := h2.1
      simpa [Array.getD_eq_getD_getElem?, hlt] using this
    have hdeps : ∀ ed ∈ ops[i].after, Region.binds .any ed = true → L.getD ed.on false = true := fun ed hed hb => by
      have := h2.2 ed hed
      rw [hb] at this
      simpa using this
    obtain ⟨hdst, hg⟩ := hQ.dst i _ ho
    refine Goes.step rfl fun w₁ h₁ => ?_
    have hF' := rl hF h₁
    obtain ⟨hr, hev⟩ := hQ.runs i _ (fillD T0 d val L ops.size) w₁ ho hF'
      (fun ed hed hb => fillD_at (hdeps ed hed hb) (hQ.low _ (Nat.lt_trans (hQ.ord i _ ho ed hed) hin)) _ (fun k hk ek => hQ.inj k ed.on hk (Nat.lt_trans (hQ.ord i _ ho ed hed) hin) ek) (Nat.lt_trans (hQ.ord i _ ho ed hed) hin))
      (fun j hj => fillD_else _ fun k hk _ => hj k hk)
    rw [stepG_value ho (by simp [Region.wanted, hg]) hkd hr]
    refine ⟨hev, ?_⟩
    have hput : (⟨fillD T0 d val L ops.size, ds⟩ : Act).put ops[i].dst (val i) = ⟨fillD T0 d val (L.setIfInBounds i true) ops.size, ds⟩ := by
      rw [hdst]
      simp only [Act.put]
      rw [fillD_step hQ.inj hin hs hLi]
    rw [hput]
    exact ih (L.setIfInBounds i true) t' w₁ (by simp [hs]) (by rw [count_set hin hs hLi]; omega) hF'
/-- .. from the region's head. -/
theorem goes_still (hm : P.follows .mixedOrders = true) (hd : ∀ w, D w { w with drawn := w.drawn + 1 } #[]) {b : Frame} {id : Nat} {ops : Array Oper} {T0 : Array Value} {ds : List Deferred} {d : Nat → Nat} {val : Nat → Value} {F : World → Prop} (hQ : QuietR P b.fn ops T0 ds d val F D) (hkd : b.kind ≠ .early)
    (rl : ∀ {w w₁ : World}, F w → R w w₁ → F w₁) (rd : ∀ w, F w → F { w with drawn := w.drawn + 1 }) {k : List Item} {cs : List Frame} {m : Nat} {w : World} (hF : F w)
    (h : ∀ w, F w → Goes P main R D Stop m (G (b.at ⟨fillD T0 d val (Array.replicate ops.size true) ops.size, ds⟩ (.inRegion ops [] :: k)) cs) w) :
    Goes P main R D Stop (m + ops.size + 1) (G (b.at ⟨T0, ds⟩ (.code (.region id ops true) :: k)) cs) w := by
  refine goes_draw hm hd fun w₁ h₁ t => ?_
  have e : fillD T0 d val (Array.replicate ops.size false) ops.size = T0 := by
    refine Array.ext_getElem? fun j => fillD_else _ fun i hi hx => ?_
    simp [Array.getD_eq_getD_getElem?, hi] at hx
  have := goes_quiet hQ hkd rl (k := k) (cs := cs) (m := m) h ops.size (Array.replicate ops.size false) t { w₁ with drawn := w₁.drawn + 1 } (by simp) (by
    have : ((List.range ops.size).filter fun k => (Array.replicate ops.size false).getD k false) = [] := List.filter_eq_nil_iff.2 fun a ha => by
      have ha' : a < ops.size := by simpa using ha
      simp [Array.getD_eq_getD_getElem?, ha']
    rw [this]; simp) (rd _ (rl hF h₁))
  rw [e] at this
  exact this
end
end Go.Proofs.Ytblpmdolclalnaa

namespace Go.Proofs.Ytblpmdolclalnaa
open Go.Conc Go.RowKit Go.Conc.Lib Go.ConcR.Gen Go.ConcN.Gen

/-- All that is shunned are blocks of groups. -/
def S66 (S : Nat → Prop) (w : World) : Prop := ∀ b, S b → ∃ cs : Array Value, w.heap[b]? = some (.cells cs 66 (0, 0))
/-- What a call keeps. -/
structure Keep (Shun : Nat → Prop) (w : World) (S : Nat → Prop) (w' : World) : Prop where
  shun : ∀ b, S b → Shun b ∨ w.heap.size ≤ b
  out : Out w.heap.size w (fun b _ => Shun b) w'
  s66 : S66 S w'
/-- The elements of a slice. -/
def Ls (S : Nat → Prop) (fa : Option Addr) (xs : List Value) (w : World) : Prop := ∀ (i : Nat) (v : Value), xs[i]? = some v → ∃ bl o, fa = some ⟨bl, o, none⟩ ∧ ¬ S bl ∧ w.cell? ⟨bl, o + i, none⟩ = some v
/-- A variable in its box. -/
def Cel (S : Nat → Prop) (b : Nat) (v : Value) (w : World) : Prop := ¬ S b ∧ w.cell? ⟨b, 0, none⟩ = some v
section
variable {Shun S S' : Nat → Prop} {w w₁ w₂ : World} {fa : Option Addr} {xs : List Value} {b n cap t : Nat} {v : Value}
theorem S66.lt (h : S66 S w) (hb : S b) : b < w.heap.size := let ⟨_, hc⟩ := h b hb; (Array.getElem?_eq_some_iff.1 hc).1
theorem Keep.refl (h : S66 S w) : Keep S w S w := ⟨fun _ => .inl, Out.refl (Nat.le_refl _), h⟩
theorem Keep.old (h : Keep Shun w S w₁) (hb : b < w.heap.size) (hn : ¬ Shun b) : ¬ S b := fun hs => (h.shun b hs).elim hn fun hx => by omega
theorem Keep.trans (h : Keep Shun w S w₁) (h' : Keep S w₁ S' w₂) : Keep Shun w S' w₂ := by
  refine ⟨fun b hb => ?_, ⟨Nat.le_trans h.out.size h'.out.size, fun b x hb hg => ?_, fun b hb hg => ?_, fun b c e f hb hc => ?_, h'.out.os.trans h.out.os, h'.out.out.trans h.out.out, h'.out.tape.trans h.out.tape⟩, h'.s66⟩
  · rcases h'.shun b hb with x | x
    · exact h.shun b x
    · exact .inr (Nat.le_trans h.out.size x)
  · exact (h'.out.cell b x (Nat.lt_of_lt_of_le hb h.out.size) (h.old hb hg)).trans (h.out.cell b x hb hg)
  · exact (h'.out.blk b (Nat.lt_of_lt_of_le hb h.out.size) fun _ => h.old hb (hg 0)).trans (h.out.blk b hb hg)
  · obtain ⟨c1, h1, h2⟩ := h.out.form b c e f hb hc
    obtain ⟨c2, h3, h4⟩ := h'.out.form b c1 e f (Nat.lt_of_lt_of_le hb h.out.size) h1
    exact ⟨c2, h3, h4.trans h2⟩
theorem Keep.at (h : Keep Shun w S w₁) (d : Nat) : Keep Shun w S (w₁.at d) := ⟨h.shun, h.out.at d, h.s66⟩
theorem Keep.alloc (h : Keep Shun w S w₁) (o : Obj) : Keep Shun w S (w₁.alloc o) := ⟨h.shun, h.out.alloc o, fun b hb => (let ⟨cs, hc⟩ := h.s66 b hb; ⟨cs, (heap_alloc_old _ _ b (h.s66.lt hb)).trans hc⟩)⟩
theorem Keep.grown (h : Keep Shun w S w₁) (hg : w₁.grownBy w₂ v.ownBlock) (hr : w₁.ownsRow 0 t 1 v n xs) (ht : t ≠ 66) (hb : ∀ g, v.ownBlock = some g → w.heap.size ≤ g) : Keep Shun w S w₂ := by
  have hlow : ∀ b, b < w.heap.size → some b ≠ v.ownBlock := fun b hlt e => by have := hb b e.symm; omega
  refine ⟨h.shun, h.out.more hg.size (fun b hlt => hg.block b (Nat.lt_of_lt_of_le hlt h.out.size) (hlow b hlt)) hg.os hg.output hg.tape, fun b hs => ?_⟩
  obtain ⟨cs, hc⟩ := h.s66 b hs
  refine ⟨cs, (hg.block b (Array.getElem?_eq_some_iff.1 hc).1 fun e => ?_).trans hc⟩
  obtain ⟨cs', hc'⟩ := row_tp hr e.symm
  rw [hc] at hc'
  cases hc'
  exact ht rfl
theorem Keep.steady : Steady (Keep Shun w S) := fun _ d h => h.at d
theorem Ls.keep (h : Ls Shun fa xs w) (k : Keep Shun w S w₁) : Ls S fa xs w₁ := fun i v hv => by
  obtain ⟨bl, o, h1, h2, h3⟩ := h i v hv
  exact ⟨bl, o, h1, k.old (cell_lt h3) h2, (k.out.cell bl _ (cell_lt h3) h2).trans h3⟩
theorem Cel.keep (h : Cel Shun b v w) (k : Keep Shun w S w₁) : Cel S b v w₁ := ⟨k.old (cell_lt h.2) h.1, (k.out.cell b _ (cell_lt h.2) h.1).trans h.2⟩
theorem Ls.row (h : w.ownsRow 0 t 1 (.slice fa n cap) n xs) (ht : t ≠ 66) (hs : S66 S w) : Ls S fa xs w := fun i v hv => by
  rcases h.2 with ⟨e, h0⟩ | ⟨g, c, cur, e, _⟩
  · have := h.1
    rw [h0] at this
    have hx : xs = [] := List.length_eq_zero_iff.1 (by omega)
    rw [hx] at hv
    cases hv
  · cases e
    refine ⟨g, 0, rfl, fun hx => ?_, by rw [Nat.zero_add]; exact row_get h hv⟩
    obtain ⟨cs, hc⟩ := hs g hx
    obtain ⟨cs', hc'⟩ := row_tp h (g := g) rfl
    rw [hc] at hc'
    cases hc'
    exact ht rfl
theorem AtRel.steady : Steady (AtRel w) := fun w' d h => by obtain ⟨d', rfl⟩ := h; exact ⟨d, rfl⟩
/-- A new box. -/
theorem keep_box (h : S66 Shun w) (r : AtRel w w₁) : Keep Shun w Shun (w₁.alloc (.cells #[v] t)) ∧ Cel Shun w₁.heap.size v (w₁.alloc (.cells #[v] t)) := by
  obtain ⟨d, rfl⟩ := r
  have hn := heap_alloc_new (w.at d) (Obj.cells #[v] t)
  exact ⟨((Keep.refl h).at d).alloc _, fun hs => Nat.lt_irrefl _ (h.lt hs), by unfold World.cell?; rw [hn]; rfl⟩
end
/-- An append of one element, goroutine 0 being alone. -/
theorem sd_append {P : Program} {t e ty : TypeId} (T : OneT P t e) {Shun : Nat → Prop} {w : World} {v : Value} {n : Nat} {xs : List Value} (hown : w.ownsRow 0 e 1 v n xs) {bx cx : Nat} {u : Value} (hu : w.cell? ⟨bx, 0, none⟩ = some u) (h1 : u.oneCell' = true) (hn : n + 1 ≤ 1000000)
    (hW : ∀ g, v.ownBlock = some g → ¬ Shun g) (hb : ¬ Shun bx) (hs : ∀ b, Shun b → b < w.heap.size) :
    ∃ v' w', (Builtin.append_ #[t, t] ty #[v, .slice (some ⟨bx, 0, none⟩) 1 cx]).run P w = .ok v' w' ∧ w'.ownsRow 0 e 1 v' (n + 1) (xs ++ [u]) ∧ w.grownBy w' v.ownBlock ∧ (∀ g, v'.ownBlock = some g → v.ownBlock = some g ∨ (w.heap.size ≤ g ∧ g < w'.heap.size)) ∧
      ∀ fn, SD Shun w w' (seen P fn ((Builtin.append_ #[t, t] ty #[v, .slice (some ⟨bx, 0, none⟩) 1 cx]).events P w #[])) := by
  obtain ⟨v', w', hr, hrow', hgr, hb', hgua⟩ := append1 (P := P) (said := false) (Wg := w.heap.size) (Writ := fun b _ => ¬ Shun b) (Read := fun b _ => ¬ Shun b) (ty := ty) T (cx := cx) hown hu h1 hn
    (fun g hg => ⟨Nat.ne_of_lt (hown.lt g hg).2, fun _ => hW g hg⟩) ⟨Nat.ne_of_lt (cell_lt hu), fun _ => .inl hb⟩
  exact ⟨v', w', hr, hrow', hgr, hb', fun fn => sd_gua (hgua fn) hs⟩
theorem keep_refl_at {Shun : Nat → Prop} {w w₁ : World} (h : S66 Shun w) (r : AtRel w w₁) : Keep Shun w Shun w₁ := by obtain ⟨d, rfl⟩ := r; exact (Keep.refl h).at d
section
variable {Shun : Nat → Prop} {w : World} {b₀ : Frame} {a₀ : Act} {ops₀ : Array Oper} {i₀ : Nat} {rest₀ : List Nat} {k₀ : List Item} {cs : List Frame}
noncomputable def body12 : Code := Try.f12.body.getD .skip
noncomputable def body13 : Code := Try.f13.body.getD .skip

set_option maxRecDepth 100000 in
set_option maxHeartbeats 4000000 in
theorem fn12 {a : Int} (h66 : S66 Shun w) : Lone Try.prog w.heap.size (fun S g w' => Keep Shun w S w' ∧ ∃ kb, Cel S kb (.int .u8 a) w' ∧ g = G (b₀.at (a₀.put ((ops₀[i₀]?).bind (·.dst)) (fnV kb)) (.inRegion ops₀ rest₀ :: k₀)) cs) Shun (G ((base 12).at ⟨#[.int .u8 a, undef, undef, undef], []⟩ [.code body12]) (b₀.at a₀ (.inRegion ops₀ (i₀ :: rest₀) :: k₀) :: cs)) w := by
  have hD : ∀ w, SD Shun w w #[] := sd_idle
  have hF : AtRel w w := ⟨w.drawn, rfl⟩
  have rl : ∀ {w₁ w₂ : World}, AtRel w w₁ → AtRel w₁ w₂ → AtRel w w₂ := fun h r => AtRel.steady.rel h r
  refine Lone.goes (n := 30) ?_
  generalize hw : w = w₀ at hF ⊢
  rw [← hw] at hF ⊢
  simp only [body12, Try.f12, Option.getD_some]
  repeat ((first | ((first | (with_reducible first | refine g_k true true hD rfl ?_ | refine g_ret hD ?_ | refine g_end hD ?_) | ((with_reducible refine g_ct hD ?_ ?_); (focus exact rfl)) | ((with_reducible refine g_cf hD ?_ ?_); (focus exact rfl))); intro _ h₁; replace hF := rl hF h₁; clear h₁) | ((with_reducible refine g_reg hD (fun _ h₁ => ?_)); replace hF := rl hF h₁; clear h₁; simp only [regN]) | ((with_reducible refine g_exit hD (k' := ?_) ?_ (fun _ h₁ => ?_)); rotate_left; (focus exact rfl); replace hF := rl hF h₁; clear h₁)))
  refine Goes.step rfl fun w₁ h₁ => ?_
  replace hF := rl hF h₁
  clear h₁
  refine goes_oper_k rfl rfl (by decide) (fun K hK => ?_)
  go_simp
  refine hK _ _ ⟨sd_new (by simp) (fun e he => ?_), ?_⟩
  · have hm := mem_listed he
    simp [go_sem] at hm
  clear hK K
  replace hF := keep_box (v := .int .u8 a) (t := 5) h66 hF
  clear rl
  generalize w₁.alloc (.cells #[.int .u8 a] 5) = w₂ at hF ⊢
  generalize w₁.heap.size = kb at hF ⊢
  clear w₁
  have rl : ∀ {w₁ w₂ : World}, (Keep Shun w Shun w₁ ∧ Cel Shun kb (.int .u8 a) w₁) → AtRel w₁ w₂ → (Keep Shun w Shun w₂ ∧ Cel Shun kb (.int .u8 a) w₂) := fun h r => by obtain ⟨d, rfl⟩ := r; exact ⟨h.1.at d, h.2⟩
  try walk_nrm
  repeat ((first | ((with_reducible refine g_opG ?_); (first | (refine g_unw hD rfl rfl (fun _ h₁ => ?_); replace hF := rl hF h₁; clear h₁; walk_nrm) | (refine Goes.step rfl (fun _ h₁ => ?_); replace hF := rl hF h₁; clear h₁; refine goes_oper_k rfl rfl (by k_ne) (fun K hK => ?_); go_simp; refine hK _ _ ⟨?_, ?_⟩; (focus (refine g_idle hD ?_; intro e he; have hm := mem_listed he; simp [go_sem, *] at hm; done)); clear hK K; try w_num))) | ((first | (with_reducible first | refine g_k true true hD rfl ?_ | refine g_ret hD ?_ | refine g_end hD ?_) | ((with_reducible refine g_ct hD ?_ ?_); (focus exact rfl)) | ((with_reducible refine g_cf hD ?_ ?_); (focus exact rfl))); intro _ h₁; replace hF := rl hF h₁; clear h₁) | ((with_reducible refine g_reg hD (fun _ h₁ => ?_)); replace hF := rl hF h₁; clear h₁; simp only [regN]) | ((with_reducible refine g_exit hD (k' := ?_) ?_ (fun _ h₁ => ?_)); rotate_left; (focus exact rfl); replace hF := rl hF h₁; clear h₁)))
  refine Goes.step rfl fun w₃ h₃ => ?_
  replace hF := rl hF h₃
  clear h₃
  refine goes_leave1 rfl rfl Try.func12 rfl ⟨sd_idle _, ?_⟩
  exact Goes.stop fun w₄ h₄ => (let hF' := rl hF h₄; ⟨hF'.1, kb, hF'.2, rfl⟩)

set_option maxRecDepth 100000 in
set_option maxHeartbeats 4000000 in
theorem fn13 {fa : Option Addr} {n cap : Nat} (h66 : S66 Shun w) : Lone Try.prog w.heap.size (fun S g w' => Keep Shun w S w' ∧ ∃ kb, Cel S kb (.slice fa n cap) w' ∧ g = G (b₀.at (a₀.put ((ops₀[i₀]?).bind (·.dst)) (seqV kb)) (.inRegion ops₀ rest₀ :: k₀)) cs) Shun (G ((base 13).at ⟨#[.slice fa n cap, undef, undef, undef], []⟩ [.code body13]) (b₀.at a₀ (.inRegion ops₀ (i₀ :: rest₀) :: k₀) :: cs)) w := by
  have hD : ∀ w, SD Shun w w #[] := sd_idle
  have hF : AtRel w w := ⟨w.drawn, rfl⟩
  have rl : ∀ {w₁ w₂ : World}, AtRel w w₁ → AtRel w₁ w₂ → AtRel w w₂ := fun h r => AtRel.steady.rel h r
  refine Lone.goes (n := 30) ?_
  generalize hw : w = w₀ at hF ⊢
  rw [← hw] at hF ⊢
  simp only [body13, Try.f13, Option.getD_some]
  repeat ((first | ((first | (with_reducible first | refine g_k true true hD rfl ?_ | refine g_ret hD ?_ | refine g_end hD ?_) | ((with_reducible refine g_ct hD ?_ ?_); (focus exact rfl)) | ((with_reducible refine g_cf hD ?_ ?_); (focus exact rfl))); intro _ h₁; replace hF := rl hF h₁; clear h₁) | ((with_reducible refine g_reg hD (fun _ h₁ => ?_)); replace hF := rl hF h₁; clear h₁; simp only [regN]) | ((with_reducible refine g_exit hD (k' := ?_) ?_ (fun _ h₁ => ?_)); rotate_left; (focus exact rfl); replace hF := rl hF h₁; clear h₁)))
  refine Goes.step rfl fun w₁ h₁ => ?_
  replace hF := rl hF h₁
  clear h₁
  refine goes_oper_k rfl rfl (by decide) (fun K hK => ?_)
  go_simp
  refine hK _ _ ⟨sd_new (by simp) (fun e he => ?_), ?_⟩
  · have hm := mem_listed he
    simp [go_sem] at hm
  clear hK K
  replace hF := keep_box (v := .slice fa n cap) (t := 22) h66 hF
  clear rl
  generalize w₁.alloc (.cells #[.slice fa n cap] 22) = w₂ at hF ⊢
  generalize w₁.heap.size = kb at hF ⊢
  clear w₁
  have rl : ∀ {w₁ w₂ : World}, (Keep Shun w Shun w₁ ∧ Cel Shun kb (.slice fa n cap) w₁) → AtRel w₁ w₂ → (Keep Shun w Shun w₂ ∧ Cel Shun kb (.slice fa n cap) w₂) := fun h r => by obtain ⟨d, rfl⟩ := r; exact ⟨h.1.at d, h.2⟩
  try walk_nrm
  repeat ((first | ((with_reducible refine g_opG ?_); (first | (refine g_unw hD rfl rfl (fun _ h₁ => ?_); replace hF := rl hF h₁; clear h₁; walk_nrm) | (refine Goes.step rfl (fun _ h₁ => ?_); replace hF := rl hF h₁; clear h₁; refine goes_oper_k rfl rfl (by k_ne) (fun K hK => ?_); go_simp; refine hK _ _ ⟨?_, ?_⟩; (focus (refine g_idle hD ?_; intro e he; have hm := mem_listed he; simp [go_sem, *] at hm; done)); clear hK K; try w_num))) | ((first | (with_reducible first | refine g_k true true hD rfl ?_ | refine g_ret hD ?_ | refine g_end hD ?_) | ((with_reducible refine g_ct hD ?_ ?_); (focus exact rfl)) | ((with_reducible refine g_cf hD ?_ ?_); (focus exact rfl))); intro _ h₁; replace hF := rl hF h₁; clear h₁) | ((with_reducible refine g_reg hD (fun _ h₁ => ?_)); replace hF := rl hF h₁; clear h₁; simp only [regN]) | ((with_reducible refine g_exit hD (k' := ?_) ?_ (fun _ h₁ => ?_)); rotate_left; (focus exact rfl); replace hF := rl hF h₁; clear h₁)))
  refine Goes.step rfl fun w₃ h₃ => ?_
  replace hF := rl hF h₃
  clear h₃
  refine goes_leave1 rfl rfl Try.func13 rfl ⟨sd_idle _, ?_⟩
  exact Goes.stop fun w₄ h₄ => (let hF' := rl hF h₄; ⟨hF'.1, kb, hF'.2, rfl⟩)

end
end Go.Proofs.Ytblpmdolclalnaa

namespace Go.Proofs.Ytblpmdolclalnaa
open Go.Conc Go.RowKit Go.Conc.Lib Go.ConcR.Gen Go.ConcN.Gen

abbrev ints (ns : List Int) : List Value := ns.map (Value.int .i64)
theorem array26 (T : Array Value) (h : T.size = 26) : ∃ v0 v1 v2 v3 v4 v5 v6 v7 v8 v9 v10 v11 v12 v13 v14 v15 v16 v17 v18 v19 v20 v21 v22 v23 v24 v25, T = #[v0, v1, v2, v3, v4, v5, v6, v7, v8, v9, v10, v11, v12, v13, v14, v15, v16, v17, v18, v19, v20, v21, v22, v23, v24, v25] := by
  obtain ⟨l⟩ := T
  match l, h with
  | [v0, v1, v2, v3, v4, v5, v6, v7, v8, v9, v10, v11, v12, v13, v14, v15, v16, v17, v18, v19, v20, v21, v22, v23, v24, v25], _ => exact ⟨v0, v1, v2, v3, v4, v5, v6, v7, v8, v9, v10, v11, v12, v13, v14, v15, v16, v17, v18, v19, v20, v21, v22, v23, v24, v25, rfl⟩

/-! ### small -/
structure U9 (fa : Option Addr) (n cap i : Nat) (U : Array Value) : Prop where
  size : U.size = 25
  t0 : U[0]? = some (.slice fa n cap)
  t2 : U[2]? = some (.bool false)
  t3 : U[3]? = some (.int .i64 i)
section
variable {Shun : Nat → Prop} {w w₁ : World} {b₀ : Frame} {a₀ : Act} {ops₀ : Array Oper} {i₀ : Nat} {rest₀ : List Nat} {k₀ : List Item} {cs : List Frame} {fa : Option Addr} {cap i : Nat} {ns : List Int}
end
end Go.Proofs.Ytblpmdolclalnaa

namespace Go.Proofs.Ytblpmdolclalnaa
open Go.Conc Go.RowKit Go.Conc.Lib Go.ConcR.Gen Go.ConcN.Gen

noncomputable def body14 : Code := Try.f14.body.getD .skip
noncomputable def tl14 : Nat → Code | 0 => body14 | n + 1 => cS (tl14 n)
noncomputable def lp14 : Code := cI (cI (cS (cF (tl14 2))))
noncomputable def ops14 : Array Oper := cO (cF (cI (cF (cS lp14))))
structure U14 (fa fb : Option Addr) (na ca nb cb i : Nat) (U : Array Value) : Prop where
  size : U.size = 26
  t0 : U[0]? = some (.slice fa na ca)
  t1 : U[1]? = some (.slice fb nb cb)
  t4 : U[4]? = some (.bool false)
  t5 : U[5]? = some (.int .i64 i)
/-- The values of the region that draws. -/
def val14 (ba oa na ca bb ob nb cb i : Nat) (x y : Int) : Nat → Value
  | 0 => .slice (some ⟨ba, oa, none⟩) na ca
  | 1 => .int .i64 i
  | 2 => .pointer (some ⟨ba, oa + i, none⟩)
  | 3 => .int .i64 x
  | 4 => .slice (some ⟨bb, ob, none⟩) nb cb
  | 5 => .int .i64 i
  | 6 => .pointer (some ⟨bb, ob + i, none⟩)
  | 7 => .int .i64 y
  | 8 => .bool (x != y)
  | _ => undef
theorem op14_0 : ops14[0]? = some { dst := some 17, op := Go.Op.move (Go.Operand.tmp 0), type := 22, pos := "ref.go:43", after := #[], guard := none } := by kernel_rfl
theorem op14_1 : ops14[1]? = some { dst := some 18, op := Go.Op.move (Go.Operand.tmp 5), type := 3, pos := "ref.go:43", after := #[], guard := none } := by kernel_rfl
theorem op14_2 : ops14[2]? = some { dst := some 19, op := Go.Op.indexAddr 22 (Go.Operand.tmp 17) (Go.Operand.tmp 18), type := 0, pos := "ref.go:43", after := #[{ on := 0, ground := Go.Ground.data }, { on := 1, ground := Go.Ground.data }], guard := none } := by kernel_rfl
theorem op14_3 : ops14[3]? = some { dst := some 20, op := Go.Op.load 3 (Go.Operand.tmp 19), type := 3, pos := "ref.go:43", after := #[{ on := 2, ground := Go.Ground.data }], guard := none } := by kernel_rfl
theorem op14_4 : ops14[4]? = some { dst := some 21, op := Go.Op.move (Go.Operand.tmp 1), type := 22, pos := "ref.go:43", after := #[], guard := none } := by kernel_rfl
theorem op14_5 : ops14[5]? = some { dst := some 22, op := Go.Op.move (Go.Operand.tmp 5), type := 3, pos := "ref.go:43", after := #[], guard := none } := by kernel_rfl
theorem op14_6 : ops14[6]? = some { dst := some 23, op := Go.Op.indexAddr 22 (Go.Operand.tmp 21) (Go.Operand.tmp 22), type := 0, pos := "ref.go:43", after := #[{ on := 4, ground := Go.Ground.data }, { on := 5, ground := Go.Ground.data }], guard := none } := by kernel_rfl
theorem op14_7 : ops14[7]? = some { dst := some 24, op := Go.Op.load 3 (Go.Operand.tmp 23), type := 3, pos := "ref.go:43", after := #[{ on := 6, ground := Go.Ground.data }], guard := none } := by kernel_rfl
theorem op14_8 : ops14[8]? = some { dst := some 25, op := Go.Op.binOp Go.BinOp.neq 3 (Go.Operand.tmp 20) (Go.Operand.tmp 24) 3, type := 4, pos := "ref.go:43", after := #[{ on := 3, ground := Go.Ground.data }, { on := 7, ground := Go.Ground.data }], guard := none } := by kernel_rfl
theorem d14 {o : Oper} {i : Nat} (h : ops14[i]? = some o) : i < 9 := by
  have := (Array.getElem?_eq_some_iff.1 h).1
  have e : ops14.size = 9 := by kernel_rfl
  omega
section
variable {Shun : Nat → Prop} {w w₁ : World} {b₀ : Frame} {a₀ : Act} {ops₀ : Array Oper} {i₀ : Nat} {rest₀ : List Nat} {k₀ : List Item} {cs : List Frame} {fa fb : Option Addr} {ca cb i ba oa bb ob na nb : Nat} {ns ms : List Int} {x y : Int}
set_option maxRecDepth 100000 in
set_option maxHeartbeats 4000000 in
theorem quiet14 {T0 : Array Value} (hT : U14 (some ⟨ba, oa, none⟩) (some ⟨bb, ob, none⟩) na ca nb cb i T0) (hia : i < na) (hib : i < nb) (hsa : ¬ Shun ba) (hsb : ¬ Shun bb) (hca : w.cell? ⟨ba, oa + i, none⟩ = some (.int .i64 x)) (hcb : w.cell? ⟨bb, ob + i, none⟩ = some (.int .i64 y)) :
    QuietR Try.prog (base 14).fn ops14 T0 [] (fun k => 17 + k) (val14 ba oa na ca bb ob nb cb i x y) (AtRel w) (SD Shun) := by
  have e9 : ops14.size = 9 := by kernel_rfl
  refine ⟨fun a b _ _ h => by omega, fun i hi => by rw [hT.size]; omega, fun k o h => ?_, fun k o h => ?_, fun k o T w₁ h hF hdep hbase => ?_⟩
  · have hk := d14 h
    have : k = 0 ∨ k = 1 ∨ k = 2 ∨ k = 3 ∨ k = 4 ∨ k = 5 ∨ k = 6 ∨ k = 7 ∨ k = 8 := by omega
    rcases this with rfl | rfl | rfl | rfl | rfl | rfl | rfl | rfl | rfl <;> (first | rw [op14_0] at h | rw [op14_1] at h | rw [op14_2] at h | rw [op14_3] at h | rw [op14_4] at h | rw [op14_5] at h | rw [op14_6] at h | rw [op14_7] at h | rw [op14_8] at h) <;> (cases h; exact ⟨rfl, rfl⟩)
  · have hk := d14 h
    have : k = 0 ∨ k = 1 ∨ k = 2 ∨ k = 3 ∨ k = 4 ∨ k = 5 ∨ k = 6 ∨ k = 7 ∨ k = 8 := by omega
    rcases this with rfl | rfl | rfl | rfl | rfl | rfl | rfl | rfl | rfl <;> (first | rw [op14_0] at h | rw [op14_1] at h | rw [op14_2] at h | rw [op14_3] at h | rw [op14_4] at h | rw [op14_5] at h | rw [op14_6] at h | rw [op14_7] at h | rw [op14_8] at h) <;> (cases h; intro e he; simp at he; try (rcases he with rfl | rfl <;> simp); try (subst he; simp))
  · have hk := d14 h
    have b0 := (hbase 0 fun k hk => by omega).trans hT.t0
    have b1 := (hbase 1 fun k hk => by omega).trans hT.t1
    have b5 := (hbase 5 fun k hk => by omega).trans hT.t5
    have ha : w₁.cell? ⟨ba, oa + i, none⟩ = some (.int .i64 x) := by obtain ⟨d, rfl⟩ := hF; exact hca
    have hb : w₁.cell? ⟨bb, ob + i, none⟩ = some (.int .i64 y) := by obtain ⟨d, rfl⟩ := hF; exact hcb
    have : k = 0 ∨ k = 1 ∨ k = 2 ∨ k = 3 ∨ k = 4 ∨ k = 5 ∨ k = 6 ∨ k = 7 ∨ k = 8 := by omega
    have ia : (0 : Int) ≤ (i : Int) ∧ (i : Int) < (na : Int) := by omega
    have ib : (0 : Int) ≤ (i : Int) ∧ (i : Int) < (nb : Int) := by omega
    have nil : ∀ (es : Array Event), (∀ e ∈ es, False) → SD Shun w₁ w₁ es := fun es h => g_idle (fun w => sd_idle w) h
    rcases this with rfl | rfl | rfl | rfl | rfl | rfl | rfl | rfl | rfl
    · rw [op14_0] at h
      cases h
      constructor
      · simp [execOp, go_sem, val14, b0]
      · refine nil _ fun ev hev => ?_
        have hm := mem_listed hev
        simp [execOp, go_sem, b0] at hm
    · rw [op14_1] at h
      cases h
      constructor
      · simp [execOp, go_sem, val14, b5]
      · refine nil _ fun ev hev => ?_
        have hm := mem_listed hev
        simp [execOp, go_sem, b5] at hm
    · rw [op14_2] at h
      cases h
      have e0 : T[17]? = some (.slice (some ⟨ba, oa, none⟩) na ca) := hdep ⟨0, .data⟩ (by simp) rfl
      have e1 : T[18]? = some (.int .i64 i) := hdep ⟨1, .data⟩ (by simp) rfl
      constructor
      · simp [execOp, go_sem, val14, e0, e1, ia]
      · refine nil _ fun ev hev => ?_
        have hm := mem_listed hev
        simp [execOp, go_sem, e0, e1, ia] at hm
    · rw [op14_3] at h
      cases h
      have e2 : T[19]? = some (.pointer (some ⟨ba, oa + i, none⟩)) := hdep ⟨2, .data⟩ (by simp) rfl
      constructor
      · simp [execOp, go_sem, val14, e2, ha]
      · refine sd_read fun ev hev => ?_
        have hm := mem_listed hev
        simp [execOp, go_sem, e2, ha] at hm
        exact ⟨_, _, _, hm, hsa, cell_lt ha⟩
    · rw [op14_4] at h
      cases h
      constructor
      · simp [execOp, go_sem, val14, b1]
      · refine nil _ fun ev hev => ?_
        have hm := mem_listed hev
        simp [execOp, go_sem, b1] at hm
    · rw [op14_5] at h
      cases h
      constructor
      · simp [execOp, go_sem, val14, b5]
      · refine nil _ fun ev hev => ?_
        have hm := mem_listed hev
        simp [execOp, go_sem, b5] at hm
    · rw [op14_6] at h
      cases h
      have e4 : T[21]? = some (.slice (some ⟨bb, ob, none⟩) nb cb) := hdep ⟨4, .data⟩ (by simp) rfl
      have e5 : T[22]? = some (.int .i64 i) := hdep ⟨5, .data⟩ (by simp) rfl
      constructor
      · simp [execOp, go_sem, val14, e4, e5, ib]
      · refine nil _ fun ev hev => ?_
        have hm := mem_listed hev
        simp [execOp, go_sem, e4, e5, ib] at hm
    · rw [op14_7] at h
      cases h
      have e6 : T[23]? = some (.pointer (some ⟨bb, ob + i, none⟩)) := hdep ⟨6, .data⟩ (by simp) rfl
      constructor
      · simp [execOp, go_sem, val14, e6, hb]
      · refine sd_read fun ev hev => ?_
        have hm := mem_listed hev
        simp [execOp, go_sem, e6, hb] at hm
        exact ⟨_, _, _, hm, hsb, cell_lt hb⟩
    · rw [op14_8] at h
      cases h
      have e3 : T[20]? = some (.int .i64 x) := hdep ⟨3, .data⟩ (by simp) rfl
      have e7 : T[24]? = some (.int .i64 y) := hdep ⟨7, .data⟩ (by simp) rfl
      constructor
      · simp [execOp, go_sem, val14, e3, e7]
      · refine nil _ fun ev hev => ?_
        have hm := mem_listed hev
        simp [execOp, go_sem, e3, e7] at hm

set_option maxRecDepth 100000 in
set_option maxHeartbeats 4000000 in
theorem eq_round {Stop : Goroutine → World → Prop} (hA : Ls Shun fa (ints ns) w) (hB : Ls Shun fb (ints ms) w) (hl : ms.length = ns.length) (hlen : ns.length < 4611686018427387904) (hx : ns[i]? = some x) (hy : ms[i]? = some y) {U : Array Value} (hU : U14 fa fb ns.length ca ns.length cb i U) (hF : AtRel w w₁)
    (hno : x = y → ∀ U w₁, AtRel w w₁ → U14 fa fb ns.length ca ns.length cb (i + 1) U → Stop (G ((base 14).at ⟨U, []⟩ [.code lp14, .inLoop lp14, .inBlock 0, .code (tl14 3)]) (b₀.at a₀ (.inRegion ops₀ (i₀ :: rest₀) :: k₀) :: cs)) w₁)
    (hyes : x ≠ y → ∀ w₁, AtRel w w₁ → Stop (G (b₀.at (a₀.put ((ops₀[i₀]?).bind (·.dst)) (.bool false)) (.inRegion ops₀ rest₀ :: k₀)) cs) w₁) :
    Goes Try.prog true AtRel (SD Shun) Stop 60 (G ((base 14).at ⟨U, []⟩ [.code lp14, .inLoop lp14, .inBlock 0, .code (tl14 3)]) (b₀.at a₀ (.inRegion ops₀ (i₀ :: rest₀) :: k₀) :: cs)) w₁ := by
  have hD : ∀ w, SD Shun w w #[] := sd_idle
  have rl : ∀ {w₁ w₂ : World}, AtRel w w₁ → AtRel w₁ w₂ → AtRel w w₂ := fun h r => AtRel.steady.rel h r
  obtain ⟨hs, t0, t1, t4, t5⟩ := hU
  obtain ⟨v0, v1, v2, v3, v4, v5, v6, v7, v8, v9, v10, v11, v12, v13, v14, v15, v16, v17, v18, v19, v20, v21, v22, v23, v24, v25, rfl⟩ := array26 U hs
  simp only [List.getElem?_toArray, List.getElem?_cons_zero, List.getElem?_cons_succ, Option.some.injEq] at t0 t1 t4 t5
  subst t0 t1 t4 t5
  clear hs
  have hi : i < ns.length := (List.getElem?_eq_some_iff.1 hx).1
  have hlt : decide ((i : Int) < (ns.length : Int)) = true := decide_eq_true (by omega)
  have hadd : IntKind.i64.wrap ((i : Int) + 1) = ((i + 1 : Nat) : Int) := by rw [IntKind.wrap_i64]; omega
  obtain ⟨ba, oa, rfl, hsa, hca⟩ := hA i (.int .i64 x) (by rw [List.getElem?_map, hx]; rfl)
  obtain ⟨bb, ob, rfl, hsb, hcb⟩ := hB i (.int .i64 y) (by rw [List.getElem?_map, hy]; rfl)
  replace hlen := Hd.mk hlen
  replace hno := Hd.mk hno
  replace hyes := Hd.mk hyes
  have hQ := Hd.mk fun (T0 : Array Value) (h : U14 (some ⟨ba, oa, none⟩) (some ⟨bb, ob, none⟩) ns.length ca ns.length cb i T0) => quiet14 h hi hi hsa hsb hca hcb
  simp only [ops14, lp14, tl14, cO, cS, cF, cI, body14, Try.f14, Option.getD_some] at hQ
  clear hA hB hx hy hca hcb hl
  simp only [lp14, tl14, cS, cF, cI, body14, Try.f14, Option.getD_some] at hno ⊢
  repeat ((first | ((with_reducible refine g_opG ?_); (first | (refine g_unw hD rfl rfl (fun _ h₁ => ?_); replace hF := rl hF h₁; clear h₁; walk_nrm) | (refine Goes.step rfl (fun _ h₁ => ?_); replace hF := rl hF h₁; clear h₁; refine goes_oper_k rfl rfl (by k_ne) (fun K hK => ?_); go_simp; refine hK _ _ ⟨?_, ?_⟩; (focus (refine g_idle hD ?_; intro e he; have hm := mem_listed he; simp [go_sem, *] at hm; done)); clear hK K; try w_num))) | ((first | (with_reducible first | refine g_k true true hD rfl ?_ | refine g_ret hD ?_ | refine g_end hD ?_) | ((with_reducible refine g_ct hD ?_ ?_); (focus exact rfl)) | ((with_reducible refine g_cf hD ?_ ?_); (focus exact rfl))); intro _ h₁; replace hF := rl hF h₁; clear h₁) | ((with_reducible refine g_reg hD (fun _ h₁ => ?_)); replace hF := rl hF h₁; clear h₁; simp only [regN]) | ((with_reducible refine g_exit hD (k' := ?_) ?_ (fun _ h₁ => ?_)); rotate_left; (focus exact rfl); replace hF := rl hF h₁; clear h₁)))
  refine Goes.mono (n := 30 + 9 + 1) (goes_still (by kernel_rfl) (fun w => ⟨Nat.le_refl _, fun e he => by simp at he⟩) (hQ.out _ ⟨rfl, rfl, rfl, rfl, rfl⟩) (by decide) rl (fun w' h => by obtain ⟨d, rfl⟩ := h; exact ⟨d + 1, rfl⟩) hF (fun w₂ hF => ?_)) (by omega)
  have e : fillD #[.slice (some ⟨ba, oa, none⟩) ns.length ca, .slice (some ⟨bb, ob, none⟩) ns.length cb, v2, v3, .bool false, .int .i64 i, v6, v7, v8, v9, v10, .int .i64 i, .slice (some ⟨ba, oa, none⟩) ns.length ca, .int .i64 ns.length, .bool true, v15, v16, v17, v18, v19, v20, v21, v22, v23, v24, v25] (fun k => 17 + k) (val14 ba oa ns.length ca bb ob ns.length cb i x y) (Array.replicate 9 true) 9 = #[.slice (some ⟨ba, oa, none⟩) ns.length ca, .slice (some ⟨bb, ob, none⟩) ns.length cb, v2, v3, .bool false, .int .i64 i, v6, v7, v8, v9, v10, .int .i64 i, .slice (some ⟨ba, oa, none⟩) ns.length ca, .int .i64 ns.length, .bool true, v15, v16, .slice (some ⟨ba, oa, none⟩) ns.length ca, .int .i64 i, .pointer (some ⟨ba, oa + i, none⟩), .int .i64 x, .slice (some ⟨bb, ob, none⟩) ns.length cb, .int .i64 i, .pointer (some ⟨bb, ob + i, none⟩), .int .i64 y, .bool (x != y)] := by rfl
  simp only [List.size_toArray, List.length_cons, List.length_nil, Nat.reduceAdd, Nat.zero_add]
  rw [e]
  clear e hQ
  by_cases c1 : x = y
  · have d1 : (x != y) = false := by simp [c1]
    rw [d1]
    repeat ((first | ((with_reducible refine g_opG ?_); (first | (refine g_unw hD rfl rfl (fun _ h₁ => ?_); replace hF := rl hF h₁; clear h₁; walk_nrm) | (refine Goes.step rfl (fun _ h₁ => ?_); replace hF := rl hF h₁; clear h₁; refine goes_oper_k rfl rfl (by k_ne) (fun K hK => ?_); go_simp; refine hK _ _ ⟨?_, ?_⟩; (focus (refine g_idle hD ?_; intro e he; have hm := mem_listed he; simp [go_sem, *] at hm; done)); clear hK K; try w_num))) | ((first | (with_reducible first | refine g_k false true hD rfl ?_ | refine g_ret hD ?_ | refine g_end hD ?_) | ((with_reducible refine g_ct hD ?_ ?_); (focus exact rfl)) | ((with_reducible refine g_cf hD ?_ ?_); (focus exact rfl))); intro _ h₁; replace hF := rl hF h₁; clear h₁) | ((with_reducible refine g_reg hD (fun _ h₁ => ?_)); replace hF := rl hF h₁; clear h₁; simp only [regN]) | ((with_reducible refine g_exit hD (k' := ?_) ?_ (fun _ h₁ => ?_)); rotate_left; (focus exact rfl); replace hF := rl hF h₁; clear h₁)))
    (first | ((with_reducible refine g_opG ?_); (first | (refine g_unw hD rfl rfl (fun _ h₁ => ?_); replace hF := rl hF h₁; clear h₁; walk_nrm) | (refine Goes.step rfl (fun _ h₁ => ?_); replace hF := rl hF h₁; clear h₁; refine goes_oper_k rfl rfl (by k_ne) (fun K hK => ?_); go_simp; refine hK _ _ ⟨?_, ?_⟩; (focus (refine g_idle hD ?_; intro e he; have hm := mem_listed he; simp [go_sem, *] at hm; done)); clear hK K; try w_num))) | ((first | (with_reducible first | refine g_k true true hD rfl ?_ | refine g_ret hD ?_ | refine g_end hD ?_) | ((with_reducible refine g_ct hD ?_ ?_); (focus exact rfl)) | ((with_reducible refine g_cf hD ?_ ?_); (focus exact rfl))); intro _ h₁; replace hF := rl hF h₁; clear h₁) | ((with_reducible refine g_reg hD (fun _ h₁ => ?_)); replace hF := rl hF h₁; clear h₁; simp only [regN]) | ((with_reducible refine g_exit hD (k' := ?_) ?_ (fun _ h₁ => ?_)); rotate_left; (focus exact rfl); replace hF := rl hF h₁; clear h₁))
    exact Goes.stop fun w₄ h₄ => hno.out c1 _ _ (rl hF h₄) ⟨rfl, rfl, rfl, rfl, rfl⟩
  · have d1 : (x != y) = true := by simp [c1]
    rw [d1]
    repeat ((first | ((with_reducible refine g_opG ?_); (first | (refine g_unw hD rfl rfl (fun _ h₁ => ?_); replace hF := rl hF h₁; clear h₁; walk_nrm) | (refine Goes.step rfl (fun _ h₁ => ?_); replace hF := rl hF h₁; clear h₁; refine goes_oper_k rfl rfl (by k_ne) (fun K hK => ?_); go_simp; refine hK _ _ ⟨?_, ?_⟩; (focus (refine g_idle hD ?_; intro e he; have hm := mem_listed he; simp [go_sem, *] at hm; done)); clear hK K; try w_num))) | ((first | (with_reducible first | refine g_k true true hD rfl ?_ | refine g_ret hD ?_ | refine g_end hD ?_) | ((with_reducible refine g_ct hD ?_ ?_); (focus exact rfl)) | ((with_reducible refine g_cf hD ?_ ?_); (focus exact rfl))); intro _ h₁; replace hF := rl hF h₁; clear h₁) | ((with_reducible refine g_reg hD (fun _ h₁ => ?_)); replace hF := rl hF h₁; clear h₁; simp only [regN]) | ((with_reducible refine g_exit hD (k' := ?_) ?_ (fun _ h₁ => ?_)); rotate_left; (focus exact rfl); replace hF := rl hF h₁; clear h₁)))
    refine Goes.step rfl fun w₃ h₃ => ?_
    replace hF := rl hF h₃
    clear h₃
    refine goes_leave1 rfl rfl Try.func14 rfl ⟨sd_idle _, ?_⟩
    exact Goes.stop fun w₄ h₄ => hyes.out c1 _ (rl hF h₄)

set_option maxRecDepth 100000 in
set_option maxHeartbeats 4000000 in
theorem eq_first {Stop : Goroutine → World → Prop} (hF : AtRel w w₁)
    (hgo : na = nb → ∀ U w₁, AtRel w w₁ → U14 fa fb na ca na cb 0 U → Stop (G ((base 14).at ⟨U, []⟩ [.code lp14, .inLoop lp14, .inBlock 0, .code (tl14 3)]) (b₀.at a₀ (.inRegion ops₀ (i₀ :: rest₀) :: k₀) :: cs)) w₁)
    (hne : na ≠ nb → ∀ w₁, AtRel w w₁ → Stop (G (b₀.at (a₀.put ((ops₀[i₀]?).bind (·.dst)) (.bool false)) (.inRegion ops₀ rest₀ :: k₀)) cs) w₁) :
    Goes Try.prog true AtRel (SD Shun) Stop 40 (G ((base 14).at ⟨#[.slice fa na ca, .slice fb nb cb, undef, undef, undef, undef, undef, undef, undef, undef, undef, undef, undef, undef, undef, undef, undef, undef, undef, undef, undef, undef, undef, undef, undef, undef], []⟩ [.code body14]) (b₀.at a₀ (.inRegion ops₀ (i₀ :: rest₀) :: k₀) :: cs)) w₁ := by
  have hD : ∀ w, SD Shun w w #[] := sd_idle
  have rl : ∀ {w₁ w₂ : World}, AtRel w w₁ → AtRel w₁ w₂ → AtRel w w₂ := fun h r => AtRel.steady.rel h r
  replace hgo := Hd.mk hgo
  replace hne := Hd.mk hne
  simp only [lp14, tl14, cS, cF, cI, body14, Try.f14, Option.getD_some] at hgo ⊢
  by_cases c1 : na = nb
  · subst c1
    have d1 : ((na : Int) != (na : Int)) = false := by simp
    repeat ((first | ((with_reducible refine g_opG ?_); (first | (refine g_unw hD rfl rfl (fun _ h₁ => ?_); replace hF := rl hF h₁; clear h₁; walk_nrm) | (refine Goes.step rfl (fun _ h₁ => ?_); replace hF := rl hF h₁; clear h₁; refine goes_oper_k rfl rfl (by k_ne) (fun K hK => ?_); go_simp; refine hK _ _ ⟨?_, ?_⟩; (focus (refine g_idle hD ?_; intro e he; have hm := mem_listed he; simp [go_sem, *] at hm; done)); clear hK K; try w_num))) | ((first | (with_reducible first | refine g_k true false hD rfl ?_ | refine g_ret hD ?_ | refine g_end hD ?_) | ((with_reducible refine g_ct hD ?_ ?_); (focus exact rfl)) | ((with_reducible refine g_cf hD ?_ ?_); (focus exact rfl))); intro _ h₁; replace hF := rl hF h₁; clear h₁) | ((with_reducible refine g_reg hD (fun _ h₁ => ?_)); replace hF := rl hF h₁; clear h₁; simp only [regN]) | ((with_reducible refine g_exit hD (k' := ?_) ?_ (fun _ h₁ => ?_)); rotate_left; (focus exact rfl); replace hF := rl hF h₁; clear h₁)))
    (first | ((with_reducible refine g_opG ?_); (first | (refine g_unw hD rfl rfl (fun _ h₁ => ?_); replace hF := rl hF h₁; clear h₁; walk_nrm) | (refine Goes.step rfl (fun _ h₁ => ?_); replace hF := rl hF h₁; clear h₁; refine goes_oper_k rfl rfl (by k_ne) (fun K hK => ?_); go_simp; refine hK _ _ ⟨?_, ?_⟩; (focus (refine g_idle hD ?_; intro e he; have hm := mem_listed he; simp [go_sem, *] at hm; done)); clear hK K; try w_num))) | ((first | (with_reducible first | refine g_k true true hD rfl ?_ | refine g_ret hD ?_ | refine g_end hD ?_) | ((with_reducible refine g_ct hD ?_ ?_); (focus exact rfl)) | ((with_reducible refine g_cf hD ?_ ?_); (focus exact rfl))); intro _ h₁; replace hF := rl hF h₁; clear h₁) | ((with_reducible refine g_reg hD (fun _ h₁ => ?_)); replace hF := rl hF h₁; clear h₁; simp only [regN]) | ((with_reducible refine g_exit hD (k' := ?_) ?_ (fun _ h₁ => ?_)); rotate_left; (focus exact rfl); replace hF := rl hF h₁; clear h₁))
    exact Goes.stop fun w₄ h₄ => hgo.out rfl _ _ (rl hF h₄) ⟨rfl, rfl, rfl, rfl, rfl⟩
  · have d1 : ((na : Int) != (nb : Int)) = true := by have : (na : Int) ≠ (nb : Int) := (by omega); simpa using this
    repeat ((first | ((with_reducible refine g_opG ?_); (first | (refine g_unw hD rfl rfl (fun _ h₁ => ?_); replace hF := rl hF h₁; clear h₁; walk_nrm) | (refine Goes.step rfl (fun _ h₁ => ?_); replace hF := rl hF h₁; clear h₁; refine goes_oper_k rfl rfl (by k_ne) (fun K hK => ?_); go_simp; refine hK _ _ ⟨?_, ?_⟩; (focus (refine g_idle hD ?_; intro e he; have hm := mem_listed he; simp [go_sem, *] at hm; done)); clear hK K; try w_num))) | ((first | (with_reducible first | refine g_k true true hD rfl ?_ | refine g_ret hD ?_ | refine g_end hD ?_) | ((with_reducible refine g_ct hD ?_ ?_); (focus exact rfl)) | ((with_reducible refine g_cf hD ?_ ?_); (focus exact rfl))); intro _ h₁; replace hF := rl hF h₁; clear h₁) | ((with_reducible refine g_reg hD (fun _ h₁ => ?_)); replace hF := rl hF h₁; clear h₁; simp only [regN]) | ((with_reducible refine g_exit hD (k' := ?_) ?_ (fun _ h₁ => ?_)); rotate_left; (focus exact rfl); replace hF := rl hF h₁; clear h₁)))
    refine Goes.step rfl fun w₃ h₃ => ?_
    replace hF := rl hF h₃
    clear h₃
    refine goes_leave1 rfl rfl Try.func14 rfl ⟨sd_idle _, ?_⟩
    exact Goes.stop fun w₄ h₄ => hne.out c1 _ (rl hF h₄)

set_option maxRecDepth 100000 in
set_option maxHeartbeats 4000000 in
theorem eq_done {Stop : Goroutine → World → Prop} {U : Array Value} (hU : U14 fa fb na ca na cb na U) (hF : AtRel w w₁)
    (hgo : ∀ w₁, AtRel w w₁ → Stop (G (b₀.at (a₀.put ((ops₀[i₀]?).bind (·.dst)) (.bool true)) (.inRegion ops₀ rest₀ :: k₀)) cs) w₁) :
    Goes Try.prog true AtRel (SD Shun) Stop 40 (G ((base 14).at ⟨U, []⟩ [.code lp14, .inLoop lp14, .inBlock 0, .code (tl14 3)]) (b₀.at a₀ (.inRegion ops₀ (i₀ :: rest₀) :: k₀) :: cs)) w₁ := by
  have hD : ∀ w, SD Shun w w #[] := sd_idle
  have rl : ∀ {w₁ w₂ : World}, AtRel w w₁ → AtRel w₁ w₂ → AtRel w w₂ := fun h r => AtRel.steady.rel h r
  obtain ⟨hs, t0, t1, t4, t5⟩ := hU
  obtain ⟨v0, v1, v2, v3, v4, v5, v6, v7, v8, v9, v10, v11, v12, v13, v14, v15, v16, v17, v18, v19, v20, v21, v22, v23, v24, v25, rfl⟩ := array26 U hs
  simp only [List.getElem?_toArray, List.getElem?_cons_zero, List.getElem?_cons_succ, Option.some.injEq] at t0 t1 t4 t5
  subst t0 t1 t4 t5
  clear hs
  have hlt : decide ((na : Int) < (na : Int)) = false := decide_eq_false (by omega)
  replace hgo := Hd.mk hgo
  simp only [lp14, tl14, cS, cF, cI, body14, Try.f14, Option.getD_some] at hgo ⊢
  repeat ((first | ((with_reducible refine g_opG ?_); (first | (refine g_unw hD rfl rfl (fun _ h₁ => ?_); replace hF := rl hF h₁; clear h₁; walk_nrm) | (refine Goes.step rfl (fun _ h₁ => ?_); replace hF := rl hF h₁; clear h₁; refine goes_oper_k rfl rfl (by k_ne) (fun K hK => ?_); go_simp; refine hK _ _ ⟨?_, ?_⟩; (focus (refine g_idle hD ?_; intro e he; have hm := mem_listed he; simp [go_sem, *] at hm; done)); clear hK K; try w_num))) | ((first | (with_reducible first | refine g_k true true hD rfl ?_ | refine g_ret hD ?_ | refine g_end hD ?_) | ((with_reducible refine g_ct hD ?_ ?_); (focus exact rfl)) | ((with_reducible refine g_cf hD ?_ ?_); (focus exact rfl))); intro _ h₁; replace hF := rl hF h₁; clear h₁) | ((with_reducible refine g_reg hD (fun _ h₁ => ?_)); replace hF := rl hF h₁; clear h₁; simp only [regN]) | ((with_reducible refine g_exit hD (k' := ?_) ?_ (fun _ h₁ => ?_)); rotate_left; (focus exact rfl); replace hF := rl hF h₁; clear h₁)))
  refine Goes.step rfl fun w₃ h₃ => ?_
  replace hF := rl hF h₃
  clear h₃
  refine goes_leave1 rfl rfl Try.func14 rfl ⟨sd_idle _, ?_⟩
  exact Goes.stop fun w₄ h₄ => hgo.out _ (rl hF h₄)

theorem eq_loop {N0 : Nat} (hA : Ls Shun fa (ints ns) w) (hB : Ls Shun fb (ints ms) w) (hl : ms.length = ns.length) (hlen : ns.length < 4611686018427387904) : ∀ (m i : Nat) (U : Array Value) (w₁ : World), i + m = ns.length → ns.take i = ms.take i → AtRel w w₁ → U14 fa fb ns.length ca ns.length cb i U →
    Lone Try.prog N0 (fun S g w' => S = Shun ∧ AtRel w w' ∧ g = G (b₀.at (a₀.put ((ops₀[i₀]?).bind (·.dst)) (.bool (decide (ns = ms)))) (.inRegion ops₀ rest₀ :: k₀)) cs) Shun (G ((base 14).at ⟨U, []⟩ [.code lp14, .inLoop lp14, .inBlock 0, .code (tl14 3)]) (b₀.at a₀ (.inRegion ops₀ (i₀ :: rest₀) :: k₀) :: cs)) w₁ := by
  intro m
  induction m with
  | zero =>
    intro i U w₁ hi ha hF hU
    obtain rfl : i = ns.length := by omega
    have e : ns = ms := by
      rw [List.take_length, ← hl, List.take_length] at ha
      exact ha
    refine Lone.goes (n := 40) (eq_done hU hF fun w₂ h₂ => ⟨rfl, h₂, ?_⟩)
    rw [decide_eq_true e]
  | succ m ih =>
    intro i U w₁ hi ha hF hU
    have hlt : i < ns.length := by omega
    have hv : ns[i]? = some ns[i] := List.getElem?_eq_getElem hlt
    have hv' : ms[i]? = some ms[i] := List.getElem?_eq_getElem (by omega)
    refine Lone.on (n := 60) (eq_round hA hB hl hlen hv hv' hU hF (fun hn U' w' hF' hU' _ => ?_) (fun hy w' hF' _ => ?_))
    · refine ih (i + 1) U' w' (by omega) ?_ hF' hU'
      rw [List.take_add_one, List.take_add_one, hv, hv', ha, hn]
    · refine Lone.done ⟨rfl, hF', ?_⟩
      have : ns ≠ ms := fun e => hy (by subst e; rfl)
      rw [decide_eq_false this]
/-- A call of Equal. -/
theorem equal_call {N0 : Nat} (hA : Ls Shun fa (ints ns) w) (hB : Ls Shun fb (ints ms) w) (hlen : ns.length < 4611686018427387904) :
    Lone Try.prog N0 (fun S g w' => S = Shun ∧ AtRel w w' ∧ g = G (b₀.at (a₀.put ((ops₀[i₀]?).bind (·.dst)) (.bool (decide (ns = ms)))) (.inRegion ops₀ rest₀ :: k₀)) cs) Shun (G ((base 14).at ⟨#[.slice fa ns.length ca, .slice fb ms.length cb, undef, undef, undef, undef, undef, undef, undef, undef, undef, undef, undef, undef, undef, undef, undef, undef, undef, undef, undef, undef, undef, undef, undef, undef], []⟩ [.code body14]) (b₀.at a₀ (.inRegion ops₀ (i₀ :: rest₀) :: k₀) :: cs)) w := by
  refine Lone.on (n := 40) (eq_first ⟨w.drawn, rfl⟩ (fun hl U w₁ hF hU _ => eq_loop hA hB hl.symm hlen ns.length 0 U w₁ (by omega) (by simp) hF hU) (fun hne w₁ hF _ => Lone.done ⟨rfl, hF, ?_⟩))
  have : ns ≠ ms := fun e => hne (by rw [e])
  rw [decide_eq_false this]
end
end Go.Proofs.Ytblpmdolclalnaa

namespace Go.Proofs.Ytblpmdolclalnaa
open Go.Conc Go.RowKit Go.Conc.Lib Go.ConcR.Gen Go.ConcN.Gen
section
variable {Shun : Nat → Prop} {F : World → Prop} {w : World} {cs : List Frame} {fa : Option Addr} {nf cap N0 : Nat} {b₀ : Frame} {a₀ : Act} {ops₀ : Array Oper} {i₀ : Nat} {rest₀ : List Nat} {k₀ : List Item}

end
end Go.Proofs.Ytblpmdolclalnaa

namespace Go.Proofs.Ytblpmdolclalnaa
open Go.Conc Go.RowKit Go.Conc.Lib Go.ConcR.Gen Go.ConcN.Gen

structure U15 (fa : Option Addr) (n cap : Nat) (c : Int) (vo : Value) (i : Nat) (U : Array Value) : Prop where
  size : U.size = 23
  t0 : U[0]? = some (.int .u8 c)
  t1 : U[1]? = some (.slice fa n cap)
  t5 : U[5]? = some vo
  t6 : U[6]? = some (.int .i64 i)
/-- What is known in the loop: the values so far. -/
structure RMp (Shun : Nat → Prop) (w : World) (ys : List Int) (vo : Value) (w₁ : World) : Prop where
  keep : Keep Shun w Shun w₁
  row : w₁.ownsRow 0 3 1 vo ys.length (ints ys)
  rowO : ∀ g, vo.ownBlock = some g → w.heap.size ≤ g
structure RMx (Shun : Nat → Prop) (w : World) (ys : List Int) (vo : Value) (bx : Nat) (y : Int) (w₁ : World) : Prop where
  j : RMp Shun w ys vo w₁
  cell : w₁.cell? ⟨bx, 0, none⟩ = some (.int .i64 y)
  low : ¬ Shun bx
section
variable {Shun : Nat → Prop} {w w₁ w₂ : World} {b₀ : Frame} {a₀ : Act} {ops₀ : Array Oper} {i₀ : Nat} {rest₀ : List Nat} {k₀ : List Item} {cs : List Frame} {fa : Option Addr} {cap i bx : Nat} {ns ys : List Int} {x y c : Int} {vo : Value}
theorem RMp.steady : Steady (RMp Shun w ys vo) := fun _w d h => ⟨h.keep.at d, h.row, h.rowO⟩
theorem RMx.steady : Steady (RMx Shun w ys vo bx y) := fun w d h => ⟨RMp.steady w d h.j, h.cell, h.low⟩
theorem RMx.new (h : RMp Shun w ys vo w₁) : RMx Shun w ys vo w₁.heap.size y (w₁.alloc (.cells #[.int .i64 y] 3)) := by
  have hn := heap_alloc_new w₁ (Obj.cells #[Value.int .i64 y] 3)
  exact ⟨⟨h.keep.alloc _, ownsRow_of h.row fun g hg => heap_alloc_old _ _ g (h.row.lt g hg).2, h.rowO⟩, by unfold World.cell?; rw [hn]; rfl, fun hs => Nat.lt_irrefl _ (h.keep.s66.lt hs)⟩
theorem RMx.appended {vo' : Value} (h : RMx Shun w ys vo bx y w₁) (hgr : w₁.grownBy w₂ vo.ownBlock) (hrow : w₂.ownsRow 0 3 1 vo' (ys.length + 1) (ints ys ++ [.int .i64 y])) (hown : ∀ g, vo'.ownBlock = some g → vo.ownBlock = some g ∨ (w₁.heap.size ≤ g ∧ g < w₂.heap.size)) : RMp Shun w (ys ++ [y]) vo' w₂ := by
  refine ⟨h.j.keep.grown hgr h.j.row (by decide) h.j.rowO, by simpa using hrow, fun g hg => ?_⟩
  rcases hown g hg with e | e
  · exact h.j.rowO g e
  · exact Nat.le_trans h.j.keep.out.size e.1
end
end Go.Proofs.Ytblpmdolclalnaa

namespace Go.Proofs.Ytblpmdolclalnaa
open Go.Conc Go.RowKit Go.Conc.Lib Go.ConcR.Gen Go.ConcN.Gen

/-- The functions one behind the other. -/
def chainL (codes ns : List Int) : List Int := codes.foldl (fun l c => l.map (applyP c)) ns
structure U17 (fc : Option Addr) (nc cc : Nat) (vo : Value) (i : Nat) (U : Array Value) : Prop where
  size : U.size = 23
  t0 : U[0]? = some (.slice fc nc cc)
  t5 : U[5]? = some vo
  t6 : U[6]? = some (.int .i64 i)
section
variable {Shun : Nat → Prop} {w w₁ w₂ : World} {b₀ : Frame} {a₀ : Act} {ops₀ : Array Oper} {i₀ : Nat} {rest₀ : List Nat} {k₀ : List Item} {cs : List Frame} {fa fc : Option Addr} {cap cc i bx : Nat} {ns ys codes : List Int} {x y c : Int} {vo : Value}

theorem RMp.form (h : RMp Shun w ys vo w₁) : ∃ fa cap, vo = .slice fa ys.length cap ∧ w₁.ownsRow 0 3 1 (.slice fa ys.length cap) ys.length (ints ys) := by
  have hr := h.row
  rcases hr.2 with ⟨e, h0⟩ | ⟨g, c, cur, e, _⟩
  · refine ⟨none, 0, by rw [h0]; exact e, ?_⟩
    rw [e] at hr
    rw [show Value.slice none ys.length 0 = .slice none 0 0 by rw [h0]]
    exact hr
  · exact ⟨_, c, e, by rw [← e]; exact hr⟩
end
end Go.Proofs.Ytblpmdolclalnaa
