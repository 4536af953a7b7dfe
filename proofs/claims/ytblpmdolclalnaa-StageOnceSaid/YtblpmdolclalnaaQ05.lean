/- Every step of a child behind its release; a step of an old goroutine that only leaves. Steps of goroutine 0 that are its own, and of an old goroutine that only leaves. Goroutine 0 at its stops: the group's Add ahead of a go statement, the go statement, Wait. -/
import Derived.Test.YtblpmdolclalnaaQ04
set_option maxHeartbeats 16000000
set_option linter.unusedSimpArgs false
set_option linter.unusedVariables false
namespace Go.Proofs.Ytblpmdolclalnaa
open Go.Conc
open Go.ConcR (WgAt KK stA smA rd wr mk DC0 deafBehind_cons deafBehind_one ofEvent_mk)
open Go.ConcN (WgLive sumTo upd upd_same upd_ne sumTo_upd sumTo_congr RelBy)
section
variable {P : Program} {ty : TypeId} {Wg : Nat} {N : Net} {Shun : Nat → Prop} {base T0 : Nat}
theorem Mode.last' {j : Nat} {sg : Nat → Nat} {tag : MTag} (L : Nat) (h1 : isW3 tag) (h2 : L < j) (x : Nat) (hx : sg L = x) (h3 : x = 4 ∨ x = 3 ∨ x = 2) (h4 : ∀ i, i < j → i ≠ L → sg i = 1) : Mode j sg tag (if x = 2 then 0 else 1) 0 := by
 have := Mode.last (tag := tag) L h1 h2 (hx ▸ h3) h4
 rwa [hx] at this
theorem Mode.counted {j : Nat} {sg : Nat → Nat} {tag : MTag} {st sm : Int} (h : Mode j sg tag st sm) {i : Nat} (hi : i < j) (h5 : sg i = 5) : sm = 0 ∧ 1 ≤ Vc j sg ∧
   ((isOpen tag ∧ (∀ i, i < j → sg i = 8 ∨ sg i = 6 ∨ sg i = 5 ∨ sg i = 1) ∧ (∀ vs, tag = .w2 vs → Vc j sg ≤ vs ∧ 1 ≤ vs) ∧ st = ((Vc j sg + pend tag : Nat) : Int) * KK) ∨
    (isW3 tag ∧ (∀ i, i < j → sg i = 8 ∨ sg i = 6 ∨ sg i = 5 ∨ sg i = 1) ∧ st = ((Vc j sg : Nat) : Int) * KK + 1)) := by
 have hV : 1 ≤ Vc j sg := by
   have := Go.ConcN.le_sumTo (f := fun i => cnt (sg i)) hi
   simp only [h5] at this
   simpa [Vc, cnt] using this
 cases h with
 | opn h1 h2 h3 => exact ⟨rfl, hV, .inl ⟨h1, h2, h3, rfl⟩⟩
 | reg h1 h2 h3 => exact ⟨rfl, hV, .inr ⟨h1, h2, rfl⟩⟩
 | last L h1 h2 h3 h4 =>
   exfalso
   by_cases hL : i = L
   · subst hL; omega
   · have := h4 i hi hL; omega
 | sema h1 => have := h1 i hi; omega
 | fin _ h1 => have := h1 i hi; omega
theorem Mode.lastOne {j : Nat} {sg : Nat → Nat} {tag : MTag} {st sm : Int} (h : Mode j sg tag st sm) {i : Nat} (hi : i < j) (h5 : sg i = 4 ∨ sg i = 3 ∨ sg i = 2) : isW3 tag ∧ sm = 0 ∧ st = (if sg i = 2 then 0 else 1) ∧ ∀ k, k < j → k ≠ i → sg k = 1 := by
 cases h with
 | opn h1 h2 h3 => have := h2 i hi; omega
 | reg h1 h2 h3 => have := h2 i hi; omega
 | last L h1 h2 h3 h4 =>
   by_cases hL : i = L
   · subst hL; exact ⟨h1, rfl, rfl, h4⟩
   · have := h4 i hi hL; omega
 | sema h1 => have := h1 i hi; omega
 | fin _ h1 => have := h1 i hi; omega
theorem isW3_cases {tag : MTag} (h : isW3 tag) : tag = .w3 ∨ tag = .blk := by
 cases tag <;> first | exact .inl rfl | exact .inr rfl | exact h.elim
theorem isW3_re {tag tag' : MTag} (h : isW3 tag) (e : tag' = tag ∨ (tag = .blk ∧ tag' = .w3)) : isW3 tag' := by
 rcases e with rfl | ⟨_, rfl⟩
 · exact h
 · trivial
theorem isOpen_re {tag tag' : MTag} (h : isOpen tag) (e : tag' = tag ∨ (tag = .blk ∧ tag' = .w3)) : tag' = tag := by
 rcases e with rfl | ⟨rfl, _⟩
 · rfl
 · exact h.elim
theorem kid_done (hN : NetOK P ty Wg N) (hb : 0 < base) {c : Cf N} {t : Trace} (hI : Inv P ty Wg N Shun base T0 c t) {i : Nat} (hi : i < c.j) {g : Goroutine} (hg : c.gs[base + i]? = some g) (hrun : g.status = .running)
   (h6 : (c.D i).stage ≤ 6) (h : KSit P ty Wg N c.o i (c.D i).s (c.D i).kg (c.D i).stage (c.D i).fuel (c.D i).deaf g c.w) : Onward P ty Wg N Shun base T0 c t (runT P (crowd c.gs c.w c.sl) (base + i)) := by
 have hR := hI.rel i hi h6
 have hdk := hI.deafK i hi
 have hV := fun x => Vc_upd hi c.D x
 generalize hst : (c.D i).stage = stage at h h6
 generalize hfu : (c.D i).fuel = fuel at h
 generalize hde : (c.D i).deaf = deaf at h
 rw [hde] at hdk
 have plain : ∀ {fuel' : Nat} {g' : Goroutine}, stepG P false g c.w = .go g' c.w #[] → fuel = fuel' + 1 → KSit P ty Wg N c.o i (c.D i).s (c.D i).kg stage fuel' deaf g' c.w → Onward P ty Wg N Shun base T0 c t (runT P (crowd c.gs c.w c.sl) (base + i)) := by
   intro fuel' g' hgo hf hk
   refine kid_quiet hN hb hI hi (stage := stage) (fuel := fuel') (deaf := deaf) hg hgo quietly_nil (.inl rfl) hI.wg (fun _ => hk) (by rw [hde]; rfl) (fun tag' ht _ => ?_) (hR.own _ _ _ fun j e he => by simp at he) (by omega) (.inr ⟨hst.symm, by omega⟩)
   rw [stage_same (x := ⟨(c.D i).s, (c.D i).kg, stage, fuel', deaf⟩) hst.symm]
   exact hI.mode.retag ht
 have fin : ∀ {w'}, KR ty Wg (ownK c.o i) (c.D i).kg.Got (c.D i).kg.Rd c.w w' → True := fun _ => trivial
 have keep : (∀ o', Agr c.w.heap.size c.o o' → ∀ w₁, KR ty Wg (ownK o' i) (c.D i).kg.Got (c.D i).kg.Rd c.w w₁ → N.Fin (c.D i).s w₁) → ∀ {w'}, (∀ o', Agr w'.heap.size c.o o' → KR ty Wg (ownK o' i) (c.D i).kg.Got (c.D i).kg.Rd c.w w') →
     ∀ o', Agr w'.heap.size c.o o' → ∀ w₁, KR ty Wg (ownK o' i) (c.D i).kg.Got (c.D i).kg.Rd w' w₁ → N.Fin (c.D i).s w₁ := fun hf w' hk o' ho w₁ h₁ =>
   hf o' (fun b hb => ho b (Nat.lt_of_lt_of_le hb (hk o' ho).size)) w₁ ((hk o' ho).trans h₁)
 have rds := fun d0 : 0 < deaf => hR.deafly (hdk) g.frame.fn g.frame.place (stA Wg) rfl d0
 have rdm := fun d0 : 0 < deaf => hR.deafly (hdk) g.frame.fn g.frame.place (smA Wg) rfl d0
 cases h with
 | run _ => omega
 | wok _ => omega
 | pkR _ _ => cases hrun
 | pkS _ _ => cases hrun
 | k1 ha hf hG =>
   rcases goes_now hG with ⟨_, g', hgo, m, hm⟩ | ⟨k, g', e, hgo, hG'⟩
   · refine kid_quiet hN hb hI hi (stage := 5) (fuel := m) (deaf := 1) hg hgo (quietly_mk (by simp) (by simp) (by simp)) (.inl rfl) hI.wg (fun hk => .d1 ha (keep hf hk) hm) (by rw [hde]; rfl) (fun tag' ht _ => ?_)
       (hR.own _ _ _ fun j e he => by rcases j with _ | j <;> simp at he; subst he; exact .inl rfl) (by omega) (.inl ⟨by omega, by rw [hst]; simp [cnt]⟩)
     have hm := hI.mode.retag ht
     have eV := hV ⟨(c.D i).s, (c.D i).kg, 5, m, 1⟩
     rw [hst] at eV
     simp only [cnt, if_pos (show 5 ≤ 6 by omega), if_pos (Nat.le_refl 5), Nat.add_right_cancel_iff] at eV
     have hop : (∀ k, k < c.j → ((c.D k).stage = 8 ∨ (c.D k).stage = 6 ∨ (c.D k).stage = 5 ∨ (c.D k).stage = 1)) → ∀ k, k < c.j → ((fun k => (upd c.D i ⟨(c.D i).s, (c.D i).kg, 5, m, 1⟩ k).stage) k = 8 ∨ (fun k => (upd c.D i ⟨(c.D i).s, (c.D i).kg, 5, m, 1⟩ k).stage) k = 6 ∨ (fun k => (upd c.D i ⟨(c.D i).s, (c.D i).kg, 5, m, 1⟩ k).stage) k = 5 ∨ (fun k => (upd c.D i ⟨(c.D i).s, (c.D i).kg, 5, m, 1⟩ k).stage) k = 1) :=
       fun h => stages_upd (p := fun s => s = 8 ∨ s = 6 ∨ s = 5 ∨ s = 1) (.inr (.inr (.inl rfl))) fun k hk _ => h k hk
     generalize c.st = st at hm ⊢
     generalize c.sm = sm at hm ⊢
     cases hm with
     | opn h1 h2 h3 => rw [← eV]; exact .opn h1 (hop h2) (by rw [eV]; exact h3)
     | reg h1 h2 h3 => rw [← eV]; exact .reg h1 (hop h2) (by rw [eV]; exact h3)
     | last L h1 h2 h3 h4 =>
       exfalso
       by_cases hL : i = L
       · subst hL; omega
       · have := h4 i hi hL; omega
     | sema h1 => have := h1 i hi; omega
     | fin _ h1 => have := h1 i hi; omega
   · exact plain hgo e (.k1 ha hf hG')
 | d1 ha hf hG =>
   rcases goes_now hG with ⟨_, hstep⟩ | ⟨k, g', e, hgo, hG'⟩
   · -- THE ADD OF -1
     obtain ⟨hsm, hV1, hcase⟩ := hI.mode.counted hi hst
     have hwg := hI.wg
     rw [hsm] at hwg
     have hjl : c.j < 2147483647 := by
       obtain ⟨m₀, hm₀⟩ := hI.ex
       exact hN.many _ _ _ _ (hI.prot m₀ hm₀).1
     have hVj : Vc c.j (fun k => (c.D k).stage) ≤ c.j := by
       have := Go.ConcN.sumTo_le (f := fun k => cnt (c.D k).stage) (c := 1) (j := c.j) fun i _ => by simp only [cnt]; split <;> omega
       simpa [Vc] using this
     rcases hcase with ⟨h1, h2, h3, e⟩ | ⟨h1, h2, e⟩
     · -- nobody waits
       obtain ⟨v, hv⟩ : ∃ v, Vc c.j (fun k => (c.D k).stage) = v + 1 := ⟨_, (Nat.succ_pred_eq_of_pos hV1).symm⟩
       have hp : pend c.tag ≤ 1 := by cases c.tag <;> simp [pend]
       have e' : c.st = (((v + pend c.tag : Nat) : Int) + 1) * KK + ((0 : Nat) : Int) := by rw [e, hv]; simp only [KK]; push_cast; omega
       obtain ⟨g', hgo, _, hq⟩ := hstep (v + pend c.tag) 0 (by omega) (by omega) (by rw [← e']; exact hwg)
       obtain ⟨q, hq⟩ := hq (by simp)
       refine kid_quiet hN hb hI hi (stage := 1) (fuel := q) (deaf := 1) hg hgo (rd_wr_quiet (stA Wg) rfl).1 (.inr ⟨_, _, rfl, rfl⟩) (hwg.setSt _) (fun hk => .quit ha (keep hf hk) hq) (by rw [hde]; rfl) (fun tag' ht _ => ?_)
         (rds (by omega)).1 (by omega) (.inl ⟨by omega, by rw [hst]; simp [cnt]⟩)
       have htag := isOpen_re h1 ht
       rw [htag]
       have eV := hV ⟨(c.D i).s, (c.D i).kg, 1, q, 1⟩
       rw [hst] at eV
       simp only [cnt, if_pos (Nat.le_refl 5), if_neg (show ¬ 5 ≤ 1 by omega)] at eV
       have eV' : Vc c.j (fun k => (upd c.D i ⟨(c.D i).s, (c.D i).kg, 1, q, 1⟩ k).stage) = v := by omega
       have := Mode.opn (j := c.j) (sg := fun k => (upd c.D i ⟨(c.D i).s, (c.D i).kg, 1, q, 1⟩ k).stage) h1 (stages_upd (p := fun s => s = 8 ∨ s = 6 ∨ s = 5 ∨ s = 1) (.inr (.inr (.inr rfl))) fun k hk _ => h2 k hk) (fun vs hvs => by have := h3 vs hvs; omega)
       rw [eV'] at this
       simpa using this
     · -- goroutine 0 waits
       obtain ⟨v, hv⟩ : ∃ v, Vc c.j (fun k => (c.D k).stage) = v + 1 := ⟨_, (Nat.succ_pred_eq_of_pos hV1).symm⟩
       have e' : c.st = ((v : Int) + 1) * KK + ((1 : Nat) : Int) := by rw [e, hv]; simp only [KK]; push_cast; omega
       obtain ⟨g', hgo, hlast, hq⟩ := hstep v 1 (by omega) (by omega) (by rw [← e']; exact hwg)
       by_cases hv0 : v = 0
       · obtain ⟨m, hm⟩ := hlast ⟨hv0, rfl⟩
         refine kid_quiet hN hb hI hi (stage := 4) (fuel := m) (deaf := 1) hg hgo (rd_wr_quiet (stA Wg) rfl).1 (.inr ⟨_, _, rfl, rfl⟩) (hwg.setSt _) (fun hk => .d2 ha (keep hf hk) hm) (by rw [hde]; rfl) (fun tag' ht _ => ?_)
           (rds (by omega)).1 (by omega) (.inl ⟨by omega, by rw [hst]; simp [cnt]⟩)
         have eV := hV ⟨(c.D i).s, (c.D i).kg, 4, m, 1⟩
         rw [hst] at eV
         simp only [cnt, if_pos (Nat.le_refl 5), if_neg (show ¬ 5 ≤ 4 by omega)] at eV
         have eV' : Vc c.j (fun k => (upd c.D i ⟨(c.D i).s, (c.D i).kg, 4, m, 1⟩ k).stage) = 0 := by omega
         have hz := sumTo_zero eV'
         have hs4 : (fun k => (upd c.D i ⟨(c.D i).s, (c.D i).kg, 4, m, 1⟩ k).stage) i = 4 := by simp only [upd_same]
         have := Mode.last' (j := c.j) (sg := fun k => (upd c.D i ⟨(c.D i).s, (c.D i).kg, 4, m, 1⟩ k).stage) i (isW3_re h1 ht) hi 4 hs4 (by omega) (fun k hk hki => by
           have h0 := hz k hk
           have h8 := h2 k hk
           simp only [upd_ne _ _ hki, cnt] at h0 ⊢
           split at h0 <;> omega)
         simpa [hv0] using this
       · obtain ⟨q, hq⟩ := hq (fun x => hv0 x.1)
         refine kid_quiet hN hb hI hi (stage := 1) (fuel := q) (deaf := 1) hg hgo (rd_wr_quiet (stA Wg) rfl).1 (.inr ⟨_, _, rfl, rfl⟩) (hwg.setSt _) (fun hk => .quit ha (keep hf hk) hq) (by rw [hde]; rfl) (fun tag' ht _ => ?_)
           (rds (by omega)).1 (by omega) (.inl ⟨by omega, by rw [hst]; simp [cnt]⟩)
         have eV := hV ⟨(c.D i).s, (c.D i).kg, 1, q, 1⟩
         rw [hst] at eV
         simp only [cnt, if_pos (Nat.le_refl 5), if_neg (show ¬ 5 ≤ 1 by omega)] at eV
         have eV' : Vc c.j (fun k => (upd c.D i ⟨(c.D i).s, (c.D i).kg, 1, q, 1⟩ k).stage) = v := by omega
         have := Mode.reg (j := c.j) (sg := fun k => (upd c.D i ⟨(c.D i).s, (c.D i).kg, 1, q, 1⟩ k).stage) (isW3_re h1 ht) (stages_upd (p := fun s => s = 8 ∨ s = 6 ∨ s = 5 ∨ s = 1) (.inr (.inr (.inr rfl))) fun k hk _ => h2 k hk) (by omega)
         rw [eV'] at this
         simpa using this
   · exact plain hgo e (.d1 ha hf hG')
 | d2 ha hf hG =>
   rcases goes_now hG with ⟨_, hstep⟩ | ⟨k, g', e, hgo, hG'⟩
   · obtain ⟨h1, hsm, hs, ho⟩ := hI.mode.lastOne hi (.inl hst)
     simp only [hst] at hs
     have hs' : c.st = 1 := by rw [hs]; rfl
     have hwg := hI.wg
     rw [hsm, hs'] at hwg
     obtain ⟨g', hgo, m, hm⟩ := hstep hwg
     refine kid_quiet hN hb hI hi (stage := 3) (fuel := m) (deaf := 1) hg hgo (rd_wr_quiet (stA Wg) rfl).2.1 (.inl rfl) hwg (fun hk => .d3 ha (keep hf hk) hm) (by rw [hde]; rfl) (fun tag' ht _ => ?_) (rds (by omega)).2.1 (by omega) (.inl ⟨by omega, by simp [cnt]⟩)
     have hs4 : (fun k => (upd c.D i ⟨(c.D i).s, (c.D i).kg, 3, m, 1⟩ k).stage) i = 3 := by simp only [upd_same]
     have := Mode.last' (j := c.j) (sg := fun k => (upd c.D i ⟨(c.D i).s, (c.D i).kg, 3, m, 1⟩ k).stage) i (isW3_re h1 ht) hi 3 hs4 (by omega) (fun k hk hki => by simp only [upd_ne _ _ hki]; exact ho k hk hki)
     simpa using this
   · exact plain hgo e (.d2 ha hf hG')
 | d3 ha hf hG =>
   rcases goes_now hG with ⟨_, hstep⟩ | ⟨k, g', e, hgo, hG'⟩
   · obtain ⟨h1, hsm, hs, ho⟩ := hI.mode.lastOne hi (.inr (.inl hst))
     simp only [hst] at hs
     have hs' : c.st = 1 := by rw [hs]; rfl
     have hwg := hI.wg
     rw [hsm, hs'] at hwg
     obtain ⟨g', hgo, m, hm⟩ := hstep hwg
     refine kid_quiet hN hb hI hi (stage := 2) (fuel := m) (deaf := 1) hg hgo (rd_wr_quiet (stA Wg) rfl).2.2.1 (.inr ⟨_, _, rfl, rfl⟩) (hwg.setSt _) (fun hk => .d4 ha (keep hf hk) hm) (by rw [hde]; rfl) (fun tag' ht _ => ?_) (rds (by omega)).2.2.1 (by omega) (.inl ⟨by omega, by simp [cnt]⟩)
     have hs4 : (fun k => (upd c.D i ⟨(c.D i).s, (c.D i).kg, 2, m, 1⟩ k).stage) i = 2 := by simp only [upd_same]
     have := Mode.last' (j := c.j) (sg := fun k => (upd c.D i ⟨(c.D i).s, (c.D i).kg, 2, m, 1⟩ k).stage) i (isW3_re h1 ht) hi 2 hs4 (by omega) (fun k hk hki => by simp only [upd_ne _ _ hki]; exact ho k hk hki)
     simpa using this
   · exact plain hgo e (.d3 ha hf hG')
 | d4 ha hf hG =>
   rcases goes_now hG with ⟨_, hwake, hstep⟩ | ⟨k, g', e, hgo, hG'⟩
   · obtain ⟨h1, hsm, hs, ho⟩ := hI.mode.lastOne hi (.inr (.inr hst))
     simp only [hst] at hs
     have hs' : c.st = 0 := by rw [hs]; rfl
     have hwg := hI.wg
     rw [hsm, hs'] at hwg
     obtain ⟨g', hgo, q, hq⟩ := hstep hwg
     refine kid_quiet hN hb hI hi (stage := 1) (fuel := q) (deaf := 1) hg hgo (rd_wr_quiet (smA Wg) rfl).2.2.2 (.inr ⟨_, _, rfl, rfl⟩) (hwg.setSm _) (fun hk => .quit ha (keep hf hk) hq) (by rw [hde]; rfl) (fun tag' ht hwk => ?_) (rdm (by omega)).2.2.2 (by omega) (.inl ⟨by omega, by simp [cnt]⟩)
     have hgr : g'.status = .running := by
       cases q with
       | zero => exact absurd hq.2 (by omega)
       | succ q => exact hq.elim (fun x => absurd x.2 (by omega)) (·.1)
     have htag : tag' = .w3 := (isW3_cases (isW3_re h1 ht)).resolve_right (hwk hwake hgr)
     rw [htag]
     exact .sema (stages_upd (p := fun s => s = 1) rfl fun k hk hki => ho k hk hki)
   · exact plain hgo e (.d4 ha hf hG')
 | quit ha hf hq =>
   cases fuel with
   | zero => rw [hq.1] at hrun; cases hrun
   | succ q =>
     rcases hq with ⟨h1, _⟩ | ⟨_, g', es, hmu, hgo, hq'⟩
     · rw [h1] at hrun; cases hrun
     refine kid_quiet hN hb hI hi (stage := 1) (fuel := q) (deaf := deafBehind deaf es) hg (hgo c.w) (quietly_mute hmu) (.inl rfl) hI.wg (fun hk => .quit ha (keep hf hk) hq') (by rw [hde]) (fun tag' ht _ => ?_)
       (hR.own _ _ _ fun j e he => .inl (touch_mute (hmu e (Array.mem_of_getElem? he)))) (by omega) (.inr ⟨hst.symm, by omega⟩)
     rw [stage_same (x := ⟨(c.D i).s, (c.D i).kg, 1, q, deafBehind deaf es⟩) hst.symm]
     exact hI.mode.retag ht
end
section
variable {P : Program} {ty : TypeId} {Wg : Nat} {N : Net} {Shun : Nat → Prop} {base T0 : Nat}
theorem open_of {c : Cf N} {t : Trace} (hN : NetOK P ty Wg N) (hI : Inv P ty Wg N Shun base T0 c t) {w' : World} (hchan : ∀ y b, c.cl y = some b → ∃ k, w'.heap[y]? = some (.chan 0 #[] b k k false)) {k : Nat} (hk : k < c.j)
   (h8 : (c.D k).stage = 8) (h0 : (c.D k).fuel = 0) (y : Nat) (hy : N.act (c.D k).s = .recv y ∨ ∃ v, N.act (c.D k).s = .send y v) : ∃ q, w'.heap[y]? = some (.chan 0 #[] false q q false) := by
 obtain ⟨m₀, hm₀⟩ := hI.ex
 rcases hy with hy | ⟨v, hy⟩
 · exact hchan y false (hI.pOpen k hk h8 h0 y hy)
 · exact hchan y false (((hN.chans _ _ _ _ (hI.prot m₀ hm₀).1).2 k hk).2 y v hy)
theorem mainStep (hN : NetOK P ty Wg N) (hb : 0 < base) {c : Cf N} {t : Trace} (hI : Inv P ty Wg N Shun base T0 c t) {a a' : Goroutine} {w' : World} {es : Array Event} {o₁ : Nat → Nat} {tag' : MTag} {Q' : N.M → Prop} {B' f' d' : Nat} {st' sm' : Int}
   (ha : c.gs[0]? = some a) (hgo : stepG P true a c.w = .go a' w' es) (hag : Agr c.w.heap.size c.o o₁) (hsz : c.w.heap.size ≤ w'.heap.size) (hnew : ∀ b, c.w.heap.size ≤ b → b < w'.heap.size → o₁ b = 0)
   (hKR : ∀ k, k < c.j → KR ty Wg (ownK c.o k) (c.D k).kg.Got (c.D k).kg.Rd c.w w') (hkeep : ∀ b, N.AB b → ∀ y, w'.cell? ⟨b, y, none⟩ = c.w.cell? ⟨b, y, none⟩)
   (hsit : MSit P ty Wg N o₁ c.Given c.Fz tag' Q' f' d' a' w')
   (htr : Tr Wg N.AB Shun o₁ w'.heap.size c.Given c.Fz base c.j (fun i => (c.D i).kg) T0 (Nc w') (t ++ MemOp.ofEvents 0 a.frame.fn a.frame.place es))
   (hdf : deafBehind c.d0 es = d')
   (hchan : ∀ y b, c.cl y = some b → ∃ k, w'.heap[y]? = some (.chan 0 #[] b k k false)) (hwg : WgAt ty Wg w' st' sm')
   (hmode : Mode c.j (fun k => (c.D k).stage) tag' st' sm') (hprot : ∀ m, Q' m → N.I m c.j (fun i => (c.D i).s) c.cl ∧ N.muM m ≤ B') (hex : ∃ m, Q' m) (hpk : tag' ≠ .pk)
   (hlt : phi c.j (Vc c.j fun k => (c.D k).stage) B' tag' < phi c.j (Vc c.j fun k => (c.D k).stage) c.B c.tag ∨ (phi c.j (Vc c.j fun k => (c.D k).stage) B' tag' = phi c.j (Vc c.j fun k => (c.D k).stage) c.B c.tag ∧ f' < c.f0)) :
   Onward P ty Wg N Shun base T0 c t (runT P (crowd c.gs c.w c.sl) 0) := by
 have hrun := runT_crowd_go (P := P) (sl := c.sl) ha (by simpa using hgo)
 have hsz0 : 0 < c.gs.size := by rw [hI.size]; omega
 have hothers : ∀ op ∈ MemOp.ofEvents 0 a.frame.fn a.frame.place es, op.g = 0 := g_ofEvents
 refine ⟨{ c with gs := (c.gs.map (woken P a a' w')).setIfInBounds 0 a', w := w', o := o₁, tag := tag', Q := Q', B := B', f0 := f', d0 := d', st := st', sm := sm' }, ?_, ?_, ?_⟩
 · rw [hrun]
 · show (_ ∨ _)
   simp only [mu1, mu2]
   rcases hlt with h | ⟨h1, h2⟩
   · left; omega
   · right; omega
 · rw [hrun]
   refine ⟨by simp [hI.size], ⟨_, get_map_set_same _ _ _ _ hsz0, hsit⟩, fun k hk => ?_, fun k y hk0 hkb hy => ?_, fun k hk => ?_, fun k hk => ?_, ?_, ?_, htr, hchan, hwg, hmode, fun k hk hsg => ?_, hprot, hex, ?_, hI.pOpen, hI.pKK, fun htg => absurd htg hpk, fun b y hb => (hkeep b ⟨y, hb⟩ y).trans (hI.cells b y hb)⟩
   · obtain ⟨y, hy, hsy⟩ := hI.kids k hk
     refine ⟨_, by rw [get_map_set _ _ _ _ _ (by omega), hy]; rfl, ?_⟩
     have hsy' := hsy.rely (hKR k hk) hag
     rw [hsy'.woken hN a a' fun h8 h0 y hy => open_of hN hI hchan hk h8 h0 y hy]
     exact hsy'
   · rw [get_map_set _ _ _ _ _ (by omega)] at hy
     obtain ⟨z, hz, rfl⟩ := Option.map_eq_some_iff.1 hy
     have hq := hI.old k z hk0 hkb hz
     rw [woken_quitsD hq, Deaf_other t (by omega) _ hothers]
     exact hq
   · have hk' : base + c.j ≤ k := hk
     rw [Deaf_other t (g' := 0) (by omega) _ hothers]; exact hI.above k hk
   · rw [Deaf_other t (g' := 0) (by omega) _ hothers]; exact hI.deafK k hk
   · rw [Deaf_own, hI.deaf0]; exact hdf
   · exact hI.gh.grow hag hsz fun b h1 h2 => by show o₁ b ≤ c.j; rw [hnew b h1 h2]; omega
   · exact (hI.rel k hk hsg).app fun op hop e => by rw [hothers op hop] at e; omega
   · have := hI.t0; simp; omega
theorem main_quiet (hN : NetOK P ty Wg N) (hb : 0 < base) {c : Cf N} {t : Trace} (hI : Inv P ty Wg N Shun base T0 c t) {a a' : Goroutine} {w' : World} {es : Array Event} {tag' : MTag} {Q' : N.M → Prop} {B' f' d' : Nat} {st' sm' : Int}
   (ha : c.gs[0]? = some a) (hgo : stepG P true a c.w = .go a' w' es) (hq : Quietly Wg es) (hw : w' = c.w ∨ ∃ (a : Addr) (v : Value), a.block = Wg ∧ w' = c.w.setCell a v) (hwg : WgAt ty Wg w' st' sm')
   (hsit : w'.heap.size = c.w.heap.size → MSit P ty Wg N c.o c.Given c.Fz tag' Q' f' d' a' w') (hdf : deafBehind c.d0 es = d')
   (hmode : Mode c.j (fun k => (c.D k).stage) tag' st' sm') (hprot : ∀ m, Q' m → N.I m c.j (fun i => (c.D i).s) c.cl ∧ N.muM m ≤ B') (hex : ∃ m, Q' m) (hpk : tag' ≠ .pk)
   (hlt : phi c.j (Vc c.j fun k => (c.D k).stage) B' tag' < phi c.j (Vc c.j fun k => (c.D k).stage) c.B c.tag ∨ (phi c.j (Vc c.j fun k => (c.D k).stage) B' tag' = phi c.j (Vc c.j fun k => (c.D k).stage) c.B c.tag ∧ f' < c.f0)) :
   Onward P ty Wg N Shun base T0 c t (runT P (crowd c.gs c.w c.sl) 0) := by
 have hG := hI.gh
 have hsz : w'.heap.size = c.w.heap.size := by
   rcases hw with rfl | ⟨a, v, _, rfl⟩
   · rfl
   · simp [World.setCell]
 have rel : ∀ {Keep : Cells}, (∀ x, ¬ Keep Wg x) → Rel ty Wg Keep c.w w' := fun hK => by
   rcases hw with e | ⟨a, v, ha, e⟩
   · rw [e]; exact Rel.refl _
   · rw [e] at hwg ⊢
     exact rel_wg ha hK (rls_live hwg)
 have same : SameCh c.w w' := by
   rcases hw with rfl | ⟨a, v, _, rfl⟩
   · exact SameCh.refl _
   · exact same_setCell _ _ _
 have hch : ∀ y b, c.cl y = some b → w'.heap[y]? = c.w.heap[y]? := fun y b hy => by
   have hne := (hG.ch y (by rw [hy]; simp)).2.2.1
   rcases hw with e | ⟨a, v, ha, e⟩
   · rw [e]
   · rw [e]; exact setCell_ne (ha ▸ hne)
 have hok := hq.okM (AB := N.AB) (NC := Nc w') (o := c.o) (n := c.w.heap.size) (n' := c.w.heap.size) (g := 0) (Given := c.Given) (Fz := c.Fz) (fn := a.frame.fn) (pos := a.frame.place)
 refine mainStep hN hb hI (o₁ := c.o) ha hgo (Agr.refl _ _) (by omega) (fun b h1 h2 => by omega) (fun k hk => rel fun x hx => ?_) (fun b hb y => ?_) (hsit hsz) ?_ hdf (fun y b hy => by rw [hch y b hy]; exact hI.chan y b hy) hwg hmode hprot hex hpk hlt
 · rcases hx with e | e | e
   · unfold ownK at e; rw [hG.wg.2.1] at e; omega
   · exact (hG.got k hk _ _ e).2.2.1 (.inl rfl)
   · exact hG.wg.2.2.2.1 (hG.rd k hk _ e)
 · rcases hw with rfl | ⟨a, v, ha, rfl⟩
   · rfl
   · exact cell?_eq (setCell_ne (ha ▸ (hG.ab b hb).2)) y
 · rw [hsz]
   exact hI.tr.appM hG (Nat.le_refl _) same (fun _ hc => hsz ▸ Nc.lt hc) g_ofEvents hok.1 hok.2
theorem main_plain (hN : NetOK P ty Wg N) (hb : 0 < base) {c : Cf N} {t : Trace} (hI : Inv P ty Wg N Shun base T0 c t) {a : Goroutine} (ha : c.gs[0]? = some a) {m : Nat} {Stop : (Nat → Nat) → Goroutine → World → Prop} {tag' : MTag}
   (h : ∀ o', Agr c.w.heap.size c.o o' → (stepG P true a c.w).goes fun a' w' es => MD Wg (own0 o') c.Given c.Fz c.w w' es ∧ (New (own0 o') c.w w' → MGoo P ty Wg (own0 o') c.Given c.Fz (Stop o') m a' w'))
   (hpk : tag' ≠ .pk) (htag : tag' = c.tag) {f' : Nat}
   (hsit : ∀ o₁ a' w', (∀ o', Agr w'.heap.size o₁ o' → MGoo P ty Wg (own0 o') c.Given c.Fz (Stop o') m a' w') → MSit P ty Wg N o₁ c.Given c.Fz tag' c.Q f' c.d0 a' w') (hf : f' < c.f0) :
   Onward P ty Wg N Shun base T0 c t (runT P (crowd c.gs c.w c.sl) 0) := by
 have h0 := h c.o (Agr.refl _ _)
 cases hgo : stepG P true a c.w with
 | go a' w' es =>
   rw [hgo] at h h0
   simp only [goes_go] at h h0
   have hG := hI.gh
   let o₁ : Nat → Nat := fun b => if b < c.w.heap.size then c.o b else 0
   have hag : Agr c.w.heap.size c.o o₁ := fun b hb => by simp [o₁, hb]
   have hnew : ∀ b, c.w.heap.size ≤ b → b < w'.heap.size → o₁ b = 0 := fun b h1 _ => by
     have : ¬ b < c.w.heap.size := by omega
     simp [o₁, this]
   have hD := (h o₁ hag).1
   have hwr : ∀ b x, b < c.w.heap.size → writM (own0 o₁) c.Given c.Fz b x → c.o b = 0 ∧ ¬ c.Given b x ∧ ¬ c.Fz b := fun b x hb hx => ⟨by have := hx.1; unfold own0 at this; rw [hag b hb] at this; exact this, hx.2⟩
   have hwgw : ∀ x, ¬ writM (own0 o₁) c.Given c.Fz Wg x := fun x hx => hx.2.1 (hG.wg.2.2.1 x)
   have hchw : ∀ y, c.cl y ≠ none → ∀ x, ¬ writM (own0 o₁) c.Given c.Fz y x := fun y hy x hx => hx.2.1 ((hG.ch y hy).2.2.2 x)
   have hst := evOK_still hD.evs
   refine mainStep hN hb hI (o₁ := o₁) (st' := c.st) (sm' := c.sm) (tag' := tag') (Q' := c.Q) (B' := c.B) (f' := f') (d' := c.d0) ha hgo hag hD.size hnew (fun k hk => hD.rel (fun b x hb hkk hx => ?_) hG.wg.1 hwgw) (fun b hb y => hD.cell b y (hG.ab b hb).1.1 fun hx => hx.2.1 ((hG.ab b hb).1.2.2.1 y))
     (hsit o₁ a' w' fun o' ho => (h o' (hag.of hD.size ho)).2 fun b h1 h2 => by unfold own0; rw [ho b h2]; exact hnew b h1 h2) ?_ (deafBehind_still hst.1 _) (fun y b hy => ?_) ?_ ?_ hI.prot hI.ex hpk (.inr ⟨by rw [htag], hf⟩)
   · obtain ⟨h1, h2, h3⟩ := hwr _ _ hb hx
     rcases hkk with e' | e' | e'
     · unfold ownK at e'; omega
     · exact h2 (hG.got k hk _ _ e').1
     · exact h3 (hG.rd k hk _ e')
   · exact (hI.tr.agr hag).appM (Gh.grow hG hag (Nat.le_refl _) fun b h1 h2 => by omega) hD.size hD.kind (fun _ => Nc.lt) g_ofEvents (okM_of hnew hD.evs) (hst.2 _ _ _)
   · obtain ⟨k, hk⟩ := hI.chan y b hy
     exact ⟨k, (hD.blk y (hG.ch y (by rw [hy]; simp)).1 (hchw y (by rw [hy]; simp))).trans hk⟩
   · exact hI.wg.of_block (hD.blk Wg hG.wg.1 hwgw)
   · rw [htag]; exact hI.mode
 | _ => rw [hgo] at h0; exact h0.elim
theorem oldStep (hN : NetOK P ty Wg N) {c : Cf N} {t : Trace} (hI : Inv P ty Wg N Shun base T0 c t) {i : Nat} (hi0 : 0 < i) (hib : i < base) {g : Goroutine} (hg : c.gs[i]? = some g) (hrun : g.status = .running) :
   Onward P ty Wg N Shun base T0 c t (runT P (crowd c.gs c.w c.sl) i) := by
 have hq := hI.old i g hi0 hib hg
 cases hqi : c.q i with
 | zero => rw [hqi] at hq; rw [hq.1] at hrun; cases hrun
 | succ q =>
   rw [hqi] at hq
   rcases hq with ⟨h1, _⟩ | ⟨_, g', es, hmu, hgo, hq'⟩
   · rw [h1] at hrun; cases hrun
   have hi1 : (i == 0) = false := by simp; omega
   have hrunT := runT_crowd_go (P := P) (sl := c.sl) hg (by rw [hi1]; exact hgo c.w)
   have hszi : i < c.gs.size := by rw [hI.size]; omega
   obtain ⟨a, ha, hma⟩ := hI.main
   obtain ⟨m₀, hm₀⟩ := hI.ex
   obtain ⟨tag', f', hm', hf', htag, hwk, hsame⟩ := hma.wokenBy hN g g' (fun _ m y v hQ hy => hI.chan y false ((hN.chans _ _ _ _ (hI.prot m hQ).1).1 y v hy))
   have hothers : ∀ op ∈ MemOp.ofEvents i g.frame.fn g.frame.place es, op.g = i := g_ofEvents
   have hsum : sumTo base (upd c.q i q) + (q + 1) = sumTo base c.q + q := by
     have := sumTo_upd c.q q id hib
     simpa [hqi] using this
   refine ⟨{ c with gs := (c.gs.map (woken P g g' c.w)).setIfInBounds i g', tag := tag', f0 := f', q := upd c.q i q }, ?_, ?_, ?_⟩
   · rw [hrunT]
   · show (_ ∨ _)
     simp only [mu1, mu2]
     have hp : phi c.j (Vc c.j fun k => (c.D k).stage) c.B tag' = phi c.j (Vc c.j fun k => (c.D k).stage) c.B c.tag := by
       rcases htag with e | ⟨e, e'⟩
       · rw [e]
       · rw [e, e']; rfl
     right
     omega
   · rw [hrunT]
     refine ⟨by simp [hI.size], ⟨_, by rw [get_map_set _ _ _ _ _ (by omega), ha]; rfl, hm'⟩, fun k hk => ?_, fun k y hk0 hkb hy => ?_, fun k hk => ?_, fun k hk => ?_, ?_, hI.gh, ?_, hI.chan, hI.wg, hI.mode.retag htag, fun k hk hsg => ?_, hI.prot, hI.ex, ?_, hI.pOpen, hI.pKK, fun htg => ?_, hI.cells⟩
     · obtain ⟨y, hy, hsy⟩ := hI.kids k hk
       refine ⟨_, by rw [get_map_set _ _ _ _ _ (by omega), hy]; rfl, ?_⟩
       rw [hsy.woken hN g g' fun h8 h0 y hy => open_of hN hI hI.chan hk h8 h0 y hy]
       exact hsy
     · by_cases hki : k = i
       · subst hki
         rw [get_map_set_same _ _ _ _ hszi] at hy
         obtain rfl := Option.some.inj hy
         show QuitsD P (upd c.q k q k) _ _
         rw [upd_same, Deaf_own]
         exact hq'
       · rw [get_map_set _ _ _ _ _ hki] at hy
         obtain ⟨z, hz, rfl⟩ := Option.map_eq_some_iff.1 hy
         have hqk := hI.old k z hk0 hkb hz
         show QuitsD P (upd c.q i q k) _ _
         rw [woken_quitsD hqk, upd_ne _ _ hki, Deaf_other t (fun e => hki e.symm) _ hothers]
         exact hqk
     · have hk' : base + c.j ≤ k := hk
       rw [Deaf_other t (g' := i) (by omega) _ hothers]; exact hI.above k hk
     · rw [Deaf_other t (g' := i) (by omega) _ hothers]; exact hI.deafK k hk
     · rw [Deaf_other t (g' := i) (by omega) _ hothers]; exact hI.deaf0
     · refine hI.tr.appN (fun op hop => ?_) ((quietly_mute (Wg := Wg) hmu).okM (AB := N.AB) (NC := fun _ => True) (o := c.o) (n := 0) (n' := 0) (Given := c.Given) (Fz := c.Fz)).2
       obtain ⟨e, he, rfl⟩ := Go.Conc.mem_ofEvents hop
       exact touch_mute (hmu e he)
     · exact (hI.rel k hk hsg).app fun op hop e => by rw [hothers op hop] at e; omega
     · have := hI.t0; simp; omega
     · rcases htag with e | ⟨_, e⟩
       · exact hI.pMK (e ▸ htg)
       · rw [e] at htg; cases htg
end
theorem goo_all {P : Program} {main : Bool} {A : (Nat → Nat) → Prop} {own : (Nat → Nat) → Nat → Prop} {R : (Nat → Nat) → World → World → Prop} {D : (Nat → Nat) → World → World → Array Event → Prop} {Stop : (Nat → Nat) → Goroutine → World → Prop} {f : Nat} {g : Goroutine} {w : World}
   (refl : ∀ o w, R o w w) (hex : ∃ o, A o) (h : ∀ o, A o → Goo P main (own o) (R o) (D o) (Stop o) f g w)
   (hno : ∀ o, A o → Stop o g w → ∀ o', A o' → ∀ m, ¬ (stepG P main g w).goes fun g' w' es => D o' w w' es ∧ (New (own o') w w' → Goo P main (own o') (R o') (D o') (Stop o') m g' w')) :
   (∀ o, A o → Stop o g w) ∨ ∃ m, f = m + 1 ∧ ∀ o, A o → (stepG P main g w).goes fun g' w' es => D o w w' es ∧ (New (own o) w w' → Goo P main (own o) (R o) (D o) (Stop o) m g' w') := by
 by_cases hs : ∃ o, A o ∧ Stop o g w
 · obtain ⟨o, ho, hs⟩ := hs
   left
   intro o' ho'
   rcases Goo.now (refl o') (h o' ho') with x | ⟨m, _, x⟩
   · exact x
   · exact absurd x (hno o ho hs o' ho' m)
 · right
   obtain ⟨o, ho⟩ := hex
   rcases Goo.now (refl o) (h o ho) with x | ⟨m, e, _⟩
   · exact absurd ⟨o, ho, x⟩ hs
   · refine ⟨m, e, fun o' ho' => ?_⟩
     rcases Goo.now (refl o') (h o' ho') with x | ⟨m', e', x⟩
     · exact absurd ⟨o', ho', x⟩ hs
     · obtain rfl : m' = m := by omega
       exact x
section
variable {P : Program} {ty : TypeId} {Wg : Nat} {N : Net} {Shun : Nat → Prop} {base T0 : Nat}
theorem evOK_not {said : Bool} {Wr Rd : Cells} {n n' : Nat} {NC : Nat → Prop} {e : Event} (h : EvOK said Wg Wr Rd n n' NC e) : (∀ a w, a.block = Wg → e ≠ ⟨.cell a, w, true⟩) ∧ (∀ m, (∀ a, m ≠ .read a) → (∀ a, m ≠ .write a) → m ≠ .noRoom → e ≠ mk m) ∧ ∀ c x, e ≠ ⟨.obj c, x, true⟩ := by
 rcases h with ⟨a, wr, sy, rfl, hsy, _⟩ | ⟨_, a, s1, s2, _, rfl | rfl⟩ | ⟨_, c, wr, rfl, _⟩ | rfl
 · refine ⟨fun a' w' ha e => ?_, by simp [mk], by simp⟩
   cases e
   exact hsy rfl ha
 · exact ⟨by simp, fun m h1 _ _ => by simp only [mk, ne_eq, Event.mk.injEq, Loc.mark.injEq, not_and]; exact fun e => absurd e.symm (h1 a), by simp⟩
 · exact ⟨by simp, fun m _ h2 _ => by simp only [mk, ne_eq, Event.mk.injEq, Loc.mark.injEq, not_and]; exact fun e => absurd e.symm (h2 a), by simp⟩
 · exact ⟨by simp, by simp [mk], by simp⟩
 · exact ⟨by simp, fun m _ _ h3 => by simp only [mk, ne_eq, Event.mk.injEq, Loc.mark.injEq, not_and]; exact fun e => absurd e.symm h3, by simp⟩
theorem no_mk {own : Nat → Prop} {Given : Cells} {Fz : Nat → Prop} {g g' : Goroutine} {w w' : World} {m : Mark} {X : Goroutine → World → Prop} (hgo : stepG P true g w = .go g' w' #[mk m]) (h1 : ∀ a, m ≠ .read a) (h2 : ∀ a, m ≠ .write a) (h3 : m ≠ .noRoom := by simp) :
   ¬ (stepG P true g w).goes fun g' w' es => MD Wg own Given Fz w w' es ∧ (X g' w') := by
 rw [hgo]
 rintro ⟨h, _⟩
 exact (evOK_not (h.evs (mk m) (by simp))).2.1 m h1 h2 h3 rfl
theorem no_at {own : Nat → Prop} {Given : Cells} {Fz : Nat → Prop} {g g' : Goroutine} {w w' : World} {a : Addr} {b : Bool} {es : Array Event} {X : Goroutine → World → Prop} (hgo : stepG P true g w = .go g' w' es) (he : (⟨.cell a, b, true⟩ : Event) ∈ es) (ha : a.block = Wg := by rfl) :
   ¬ (stepG P true g w).goes fun g' w' es => MD Wg own Given Fz w w' es ∧ (X g' w') := by
 rw [hgo]
 rintro ⟨h, _⟩
 exact (evOK_not (h.evs _ he)).1 a b ha rfl
abbrev Ag (c : Cf N) : (Nat → Nat) → Prop := fun o' => Agr c.w.heap.size c.o o'
theorem ag_ex (c : Cf N) : ∃ o, Ag c o := ⟨c.o, Agr.refl _ _⟩
theorem vc_le (j : Nat) (sg : Nat → Nat) : Vc j sg ≤ j := by
 have := Go.ConcN.sumTo_le (f := fun k => cnt (sg k)) (c := 1) (j := j) fun i _ => by simp only [cnt]; split <;> omega
 simpa [Vc] using this
theorem main_a1 (hN : NetOK P ty Wg N) (hb : 0 < base) {c : Cf N} {t : Trace} (hI : Inv P ty Wg N Shun base T0 c t) {a : Goroutine} (ha : c.gs[0]? = some a) (htag : c.tag = .a1) (h : MSit P ty Wg N c.o c.Given c.Fz c.tag c.Q c.f0 c.d0 a c.w) : Onward P ty Wg N Shun base T0 c t (runT P (crowd c.gs c.w c.sl) 0) := by
 generalize hf : c.f0 = f at h
 generalize hd : c.d0 = d at h
 generalize hQ : c.Q = Q at h
 generalize htg : c.tag = tg at h
 rw [htag] at htg
 subst htg
 cases h with
 | @a1 m f g w hm h =>
   have hwg := hI.wg
   have hmode := hI.mode
   rw [htag] at hmode
   have hI0 := (hI.prot m (by rw [hQ])).1
   have hj := (hN.hire _ _ _ _ hI0 hm).1
   generalize hst : c.st = st at hwg hmode
   generalize hsm : c.sm = sm at hwg hmode
   cases hmode with
   | reg h1 _ _ => exact h1.elim
   | last L h1 _ _ _ => exact h1.elim
   | fin h1 _ => exact h1.elim
   | opn h1 h2 h3 =>
     have hv := vc_le c.j (fun k => (c.D k).stage)
     have hV : Vc c.j (fun k => (c.D k).stage) < 2147483647 := by omega
     simp only [pend, Nat.add_zero] at hwg
     rcases goo_all (fun o w => Rel.refl w) (ag_ex c) h (fun o ho hs o' ho' m' => by
       obtain ⟨g', hgo, _⟩ := hs.2 _ hV hwg
       exact no_at hgo (a := stA Wg) (b := false) (by simp [rd])) with hs | ⟨k, e, hs⟩
     · obtain ⟨g', hgo, _⟩ := (hs c.o (Agr.refl _ _)).2 _ hV hwg
       refine main_quiet hN hb hI (tag' := .ke) (Q' := (· = m)) (B' := c.B) (f' := N.fuel) (d' := 1) ha hgo (rd_wr_quiet (stA Wg) rfl).1 (.inr ⟨_, _, rfl, rfl⟩) (hwg.setSt _) (fun hsz => .ke hm fun o' ho => ?_) (by rw [hd]; rfl) ?_ (fun m' e => hI.prot m' (by rw [hQ]; exact e)) ⟨m, rfl⟩ (by simp) (.inl (by rw [htag]; simp only [phi]; omega))
       · obtain ⟨g'', hgo', hg⟩ := (hs o' (by rw [hsz] at ho; exact ho)).2 _ hV hwg
         rw [hgo] at hgo'
         cases hgo'
         exact hg
       · have := Mode.opn (tag := .ke) (j := c.j) (sg := fun k => (c.D k).stage) trivial h2 (fun vs hvs => by cases hvs)
         simp only [pend] at this
         simpa using this
     · refine main_plain hN hb hI ha (m := k) (Stop := fun o' => AtA1 P ty Wg N (own0 o') m c.Given c.Fz) (tag' := .a1) (f' := k) hs (by simp) htag.symm (fun o₁ a' w' hh => ?_) (by omega)
       rw [hQ, hd]
       exact .a1 hm hh
theorem main_ke (hN : NetOK P ty Wg N) (hb : 0 < base) {c : Cf N} {t : Trace} (hI : Inv P ty Wg N Shun base T0 c t) {a : Goroutine} (ha : c.gs[0]? = some a) (htag : c.tag = .ke) (h : MSit P ty Wg N c.o c.Given c.Fz c.tag c.Q c.f0 c.d0 a c.w) : Onward P ty Wg N Shun base T0 c t (runT P (crowd c.gs c.w c.sl) 0) := by
 generalize hf : c.f0 = f at h
 generalize hd : c.d0 = d at h
 generalize hQ : c.Q = Q at h
 generalize htg : c.tag = tg at h
 rw [htag] at htg
 subst htg
 cases h with
 | @ke m f g w hm h =>
   have hmode := hI.mode
   rw [htag] at hmode
   rcases goo_all (fun o w => Rel.refl w) (ag_ex c) h (fun o ho hs o' ho' m' => by
     obtain ⟨g', hgo, _⟩ := hs.2
     exact no_mk hgo (by simp) (by simp)) with hs | ⟨k, e, hs⟩
   · obtain ⟨g', hgo, _⟩ := (hs c.o (Agr.refl _ _)).2
     refine main_quiet hN hb hI (tag' := .go) (Q' := (· = m)) (B' := c.B) (f' := N.fuel) (d' := 0) (st' := c.st) (sm' := c.sm) ha hgo (quietly_mk (by simp) (by simp) (by simp)) (.inl rfl) hI.wg (fun hsz => .go hm fun o' ho => ?_) (by rw [hd]; rfl) ?_ (fun m' e => hI.prot m' (by rw [hQ]; exact e)) ⟨m, rfl⟩ (by simp) (.inl (by rw [htag]; simp only [phi]; omega))
     · obtain ⟨g'', hgo', hg⟩ := (hs o' ho).2
       rw [hgo] at hgo'
       cases hgo'
       exact hg
     · generalize c.st = st at hmode ⊢
       generalize c.sm = sm at hmode ⊢
       cases hmode with
       | reg h1 _ _ => exact h1.elim
       | last L h1 _ _ _ => exact h1.elim
       | fin h1 _ => exact h1.elim
       | opn h1 h2 h3 => exact Mode.opn (tag := .go) trivial h2 (fun vs hvs => by cases hvs)
   · refine main_plain hN hb hI ha (m := k) (Stop := fun o' => AtKe P ty Wg N (own0 o') m c.Given c.Fz) (tag' := .ke) (f' := k) hs (by simp) htag.symm (fun o₁ a' w' hh => ?_) (by omega)
     rw [hQ, hd]
     exact .ke hm hh
theorem goes_not_spawn {g g' ch : Goroutine} {w w' : World} {es : Array Event} {K : Goroutine → World → Array Event → Prop} (h : stepG P true g w = .spawn g' ch w' es) : ¬ (stepG P true g w).goes K := by rw [h]; exact id
theorem goes_not_comm {main : Bool} {g g' : Goroutine} {w w' : World} {cs : Array CommCase} {b : Bool} {sh : CommShape} {es : Array Event} {K : Goroutine → World → Array Event → Prop} (h : stepG P main g w = .comm g' cs b sh w' es) : ¬ (stepG P main g w).goes K := by rw [h]; exact id
theorem main_go (hN : NetOK P ty Wg N) (hb : 0 < base) {c : Cf N} {t : Trace} (hI : Inv P ty Wg N Shun base T0 c t) {a : Goroutine} (ha : c.gs[0]? = some a) (htag : c.tag = .go) (h : MSit P ty Wg N c.o c.Given c.Fz c.tag c.Q c.f0 c.d0 a c.w) : Onward P ty Wg N Shun base T0 c t (runT P (crowd c.gs c.w c.sl) 0) := by
 have hszg : 0 < c.gs.size := by rw [hI.size]; omega
 generalize hf : c.f0 = f at h
 generalize hd : c.d0 = d at h
 generalize hQ : c.Q = Q at h
 generalize htg : c.tag = tg at h
 rw [htag] at htg
 subst htg
 cases h with
 | @go m f g w hm h =>
   rcases goo_all (fun o w => Rel.refl w) (ag_ex c) h (fun o ho hs o' ho' m' => by
     obtain ⟨g', ch, hgo, _⟩ := hs.2
     exact goes_not_spawn hgo) with hs | ⟨k, e, hs⟩
   · obtain ⟨g', ch, hgo, hgive, hrd, hchs, hkid, _⟩ := (hs c.o (Agr.refl _ _)).2
     have hI0 := (hI.prot m (by rw [hQ])).1
     obtain ⟨hj, hmu, hnd, hsucc⟩ := hN.hire _ _ _ _ hI0 hm
     have hrun := runT_crowd_spawn (P := P) (sl := c.sl) ha (by simpa using hgo)
     have hG := hI.gh
     have hmode := hI.mode
     rw [htag] at hmode
     have hH : Hand c.o c.w.heap.size c.Given c.Fz (N.hireGive m) (N.hireRd m) (· ∈ N.hireChs m) :=
       ⟨hgive, hrd, fun y hy => ⟨(Array.getElem?_eq_some_iff.1 (hchs y hy).2.2.2).1, (hchs y hy).1, (hchs y hy).2.1, (hchs y hy).2.2.1⟩⟩
     obtain ⟨u, hu⟩ : ∃ u : Array MemOp, u = #[{ g := 0, fn := a.frame.fn, pos := a.frame.place, act := .go (base + c.j) }, { g := base + c.j, fn := ch.frame.fn, pos := a.frame.place, act := .start }] := ⟨_, rfl⟩
     have hops : ((MemOp.ofEvents 0 a.frame.fn a.frame.place #[]).push { g := 0, fn := a.frame.fn, pos := a.frame.place, act := .go c.gs.size }).push { g := c.gs.size, fn := ch.frame.fn, pos := a.frame.place, act := .start } = u := by
       rw [hu, hI.size]; simp [MemOp.ofEvents]
     rw [hops] at hrun
     have hu0 : ∀ op ∈ u, op.act.touch? = none ∧ (∀ a, op.act ≠ .mark (.release a)) ∧ (op.act ≠ .mark .disable ∧ op.act ≠ .mark .enable) ∧ (op.g = 0 ∨ op.g = base + c.j) := fun op hop => by
       rw [hu] at hop
       simp only [List.mem_toArray, List.mem_cons, List.not_mem_nil, or_false] at hop
       rcases hop with rfl | rfl <;> simp [MemAct.touch?]
     have hdf : ∀ k, Deaf (t ++ u) k = Deaf t k := fun k => Deaf_flat (fun op hop => (hu0 op hop).2.2.1) k
     have hD0 : Deaf t 0 = 0 := by rw [hI.deaf0, hd]
     have hDj : Deaf t (base + c.j) = 0 := hI.above _ (Nat.le_refl _)
     have hkn : ∀ i, Knows t 0 i → Knows (t ++ u) (base + c.j) i := fun i hi => by rw [hu]; exact Go.ConcN.fork_knows ⟨rfl, rfl⟩ ⟨rfl, rfl⟩ hD0 hDj hi
     have hDs : (fun k => (upd c.D c.j (⟨N.hireS m, ⟨N.hireGive m, N.hireRd m⟩, 8, N.fuel + 2, 0⟩ : KDt N) k).s) = upd (fun k => (c.D k).s) c.j (N.hireS m) := by
       funext k; unfold upd; split <;> rfl
     have hDg : (fun k => (upd c.D c.j (⟨N.hireS m, ⟨N.hireGive m, N.hireRd m⟩, 8, N.fuel + 2, 0⟩ : KDt N) k).kg) = upd (fun k => (c.D k).kg) c.j ⟨N.hireGive m, N.hireRd m⟩ := by
       funext k; unfold upd; split <;> rfl
     have hold : ∀ k, k < c.j → upd c.D c.j (⟨N.hireS m, ⟨N.hireGive m, N.hireRd m⟩, 8, N.fuel + 2, 0⟩ : KDt N) k = c.D k := fun k hk => upd_ne _ _ (by omega)
     have hcase : ∀ k, k < c.j + 1 → k < c.j ∨ k = c.j := fun k hk => by omega
     have hsum : ∀ φ : KDt N → Nat, (sumTo (c.j + 1) fun k => φ (upd c.D c.j (⟨N.hireS m, ⟨N.hireGive m, N.hireRd m⟩, 8, N.fuel + 2, 0⟩ : KDt N) k)) = (sumTo c.j fun k => φ (c.D k)) + φ ⟨N.hireS m, ⟨N.hireGive m, N.hireRd m⟩, 8, N.fuel + 2, 0⟩ := fun φ => by
       rw [sumTo, upd_same, sumTo_congr (g := fun k => φ (c.D k)) fun k hk => by rw [hold k hk]]
     refine ⟨{ c with gs := (c.gs.setIfInBounds 0 g').push ch, Given := (fun b x => c.Given b x ∨ N.hireGive m b x ∨ b ∈ N.hireChs m), Fz := (fun b => c.Fz b ∨ N.hireRd m b), cl := (fun x => if x ∈ N.hireChs m then some false else c.cl x), j := c.j + 1, D := upd c.D c.j ⟨N.hireS m, ⟨N.hireGive m, N.hireRd m⟩, 8, N.fuel + 2, 0⟩, tag := .run, Q := N.succ m, B := N.muM m - 1 - N.muS (N.hireS m), f0 := N.fuel + 1, d0 := 0 }, by rw [hrun], ?_, ?_⟩
     · show (_ ∨ _)
       left
       have e1 := hsum (kmu N)
       have hB := (hI.prot m (by rw [hQ])).2
       simp only [mu1, phi, htag]
       simp only [kmu] at e1 ⊢
       omega
     · rw [hrun]
       refine ⟨by simp [hI.size]; omega, ⟨g', ?_, ?_⟩, fun k hk => ?_, fun k y hk0 hkb hy => ?_, fun k hk => ?_, fun k hk => ?_, ?_, ?_, ?_, fun x b hx => ?_, hI.wg, ?_, fun k hk hsg => ?_, fun m' hm' => ?_, hN.some m (by rw [hm]; simp), ?_, fun k hk h8 h0 y hy => ?_,
         fun k k' y v hk hk' h8 h0 h8' h0' hy => ?_, fun htg => by simp at htg, fun b y hb => ?_⟩
       · show ((c.gs.setIfInBounds 0 g').push ch)[0]? = some g'
         rw [Array.getElem?_push_lt (by simpa using hszg)]
         simp
       · refine .run fun o' ho => ?_
         obtain ⟨g'', ch', hgo', _, _, _, _, hr⟩ := (hs o' ho).2
         rw [hgo] at hgo'
         cases hgo'
         exact hr
       · show ∃ g, ((c.gs.setIfInBounds 0 g').push ch)[base + k]? = some g ∧ _
         rcases hcase k hk with hlt | rfl
         · obtain ⟨y, hy, hsy⟩ := hI.kids k hlt
           refine ⟨y, ?_, ?_⟩
           · rw [Array.getElem?_push_lt (by simp; rw [hI.size]; omega), ← Array.getElem?_eq_getElem, Array.getElem?_setIfInBounds_ne (by omega)]
             exact hy
           · simp only [hold k hlt]; exact hsy
         · refine ⟨ch, ?_, ?_⟩
           · rw [show base + c.j = (c.gs.setIfInBounds 0 g').size by simp [hI.size], Array.getElem?_push_size]
           · simp only [upd_same]
             exact .run fun o' ho => hkid _
       · have hy' : c.gs[k]? = some y := by
           have hy2 : ((c.gs.setIfInBounds 0 g').push ch)[k]? = some y := hy
           rw [Array.getElem?_push_lt (by simp; rw [hI.size]; omega), ← Array.getElem?_eq_getElem, Array.getElem?_setIfInBounds_ne (by omega)] at hy2
           exact hy2
         rw [hdf]
         exact hI.old k y hk0 hkb hy'
       · rw [hdf]; exact hI.above k (by have : base + (c.j + 1) ≤ k := hk; omega)
       · rw [hdf]
         rcases hcase k hk with hlt | rfl
         · simp only [hold k hlt]; exact hI.deafK k hlt
         · simp only [upd_same]; exact hDj
       · rw [hdf]; exact hD0
       · rw [hDg]
         have := hG.spawn hH
         refine ⟨this.wg, this.ab, this.shun, this.fz, fun x hx => this.ch x ?_, this.given, fun i hi b x hx => ?_, this.rd, this.apart, this.mine⟩
         · by_cases hxc : x ∈ N.hireChs m
           · exact .inr hxc
           · simp only [hxc, if_false] at hx; exact .inl hx
         · have h4 := this.got i hi b x hx
           refine ⟨h4.1, h4.2.1, h4.2.2.1, fun hh => h4.2.2.2 ?_⟩
           by_cases hxc : b ∈ N.hireChs m
           · exact .inr hxc
           · simp only [hxc, if_false] at hh; exact .inl hh
       · rw [hDg]
         exact hI.tr.spawn hH (fun op hop => (hu0 op hop).1) (fun op hop => (hu0 op hop).2.1) hkn hG.mine
       · by_cases hxc : x ∈ N.hireChs m
         · simp only [hxc, if_true, Option.some.injEq] at hx
           subst hx
           exact ⟨0, (hchs x hxc).2.2.2⟩
         · simp only [hxc, if_false] at hx
           exact hI.chan x b hx
       · generalize c.st = st at hmode ⊢
         generalize c.sm = sm at hmode ⊢
         cases hmode with
         | reg h1 _ _ => exact h1.elim
         | last L h1 _ _ _ => exact h1.elim
         | fin h1 _ => exact h1.elim
         | opn h1 h2 h3 =>
           have eV : Vc (c.j + 1) (fun k => (upd c.D c.j (⟨N.hireS m, ⟨N.hireGive m, N.hireRd m⟩, 8, N.fuel + 2, 0⟩ : KDt N) k).stage) = Vc c.j (fun k => (c.D k).stage) + 1 := by
             have := hsum fun y => cnt y.stage
             simpa [Vc, cnt] using this
           have := Mode.opn (tag := .run) (j := c.j + 1) (sg := fun k => (upd c.D c.j (⟨N.hireS m, ⟨N.hireGive m, N.hireRd m⟩, 8, N.fuel + 2, 0⟩ : KDt N) k).stage) trivial (fun k hk => by
             rcases hcase k hk with hlt | rfl
             · simp only [hold k hlt]; exact h2 k hlt
             · simp [upd_same]) (fun vs hvs => by cases hvs)
           rw [eV] at this
           exact this
       · rcases hcase k hk with hlt | rfl
         · simp only [hold k hlt] at hsg
           exact (hI.rel k hlt hsg).app fun op hop e => by rcases (hu0 op hop).2.2.2 with x | x <;> omega
         · simp only [upd_same] at hsg; omega
       · rw [hDs]
         have := hsucc m' hm'
         refine ⟨this.1, ?_⟩
         show N.muM m' ≤ N.muM m - 1 - N.muS (N.hireS m)
         omega
       · have := hI.t0; simp; omega
       · rcases hcase k hk with hlt | rfl
         · simp only [hold k hlt] at h8 h0 hy
           have := hI.pOpen k hlt h8 h0 y hy
           show (if y ∈ N.hireChs m then some false else c.cl y) = _
           split
           · rfl
           · exact this
         · simp only [upd_same] at h0; omega
       · rcases hcase k hk with hlt | rfl
         · rcases hcase k' hk' with hlt' | rfl
           · simp only [hold k hlt] at h8 h0 hy
             simp only [hold k' hlt'] at h8' h0' ⊢
             exact hI.pKK k k' y v hlt hlt' h8 h0 h8' h0' hy
           · simp only [upd_same] at h0'; omega
         · simp only [upd_same] at h0; omega
       · rw [hDs]
         exact (hI.cells b y hb).trans (congrArg some (hN.vHire _ _ _ _ hI0 hm b y hb).symm)
   · refine main_plain hN hb hI ha (m := k) (Stop := fun o' => AtGo P ty Wg N (own0 o') m c.Given c.Fz) (tag' := .go) (f' := k) hs (by simp) htag.symm (fun o₁ a' w' hh => ?_) (by omega)
     rw [hQ, hd]
     exact .go hm hh
end
end Go.Proofs.Ytblpmdolclalnaa
