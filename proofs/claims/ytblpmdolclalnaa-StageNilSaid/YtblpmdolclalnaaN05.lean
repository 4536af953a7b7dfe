/- Steps of a child that has said, or says, its Done; steps of an old goroutine that only leaves. Every step of a child behind its release; a step of an old goroutine that only leaves. Steps of goroutine 0 that are its own, and of an old goroutine that only leaves. -/
import Derived.Test.YtblpmdolclalnaaN04
set_option maxHeartbeats 16000000
set_option linter.unusedSimpArgs false
set_option linter.unusedVariables false
namespace Go.Proofs.Ytblpmdolclalnaa
open Go.Conc
open Go.ConcR (WgAt KK stA smA rd wr mk DC0 deafBehind_cons deafBehind_one ofEvent_mk)
open Go.ConcN (WgLive sumTo upd upd_same upd_ne sumTo_upd sumTo_congr RelBy)
section
variable {P : Program} {ty : TypeId} {Wg : Nat} {N : Net} {Shun : Nat → Prop} {base T0 : Nat}
theorem setCell_ne {w : World} {a : Addr} {v : Value} {b : Nat} (h : b ≠ a.block) : (w.setCell a v).heap[b]? = w.heap[b]? := by
 unfold World.setCell
 simp only [Array.getElem?_modify]
 rw [if_neg (fun e => h e.symm)]
theorem same_setCell (w : World) (a : Addr) (v : Value) : SameCh w (w.setCell a v) := fun b hb => by
 by_cases e : b = a.block
 · subst e
   refine not_congr ?_
   have hx : ∃ x, w.heap[a.block]? = some x := ⟨_, Array.getElem?_eq_some_iff.2 ⟨hb, rfl⟩⟩
   obtain ⟨x, hx⟩ := hx
   unfold CS World.setCell
   simp only [Array.getElem?_modify, if_true, hx, Option.map_some, Option.some.injEq]
   cases x <;> simp
 · exact not_congr (CS.eq (setCell_ne e))
theorem rel_wg {Keep : Cells} {w : World} {a : Addr} {v : Value} (ha : a.block = Wg) (hK : ∀ x, ¬ Keep Wg x) (hl : WgLive ty Wg (w.setCell a v)) : Rel ty Wg Keep w (w.setCell a v) := by
 have ne : ∀ b, b ≠ Wg → (w.setCell a v).heap[b]? = w.heap[b]? := fun b hb => setCell_ne (ha ▸ hb)
 refine ⟨by simp [World.setCell], fun b _ k => ne b fun e => hK 0 (e ▸ k 0), fun b o _ k => cell?_eq (ne b fun e => hK o (e ▸ k)) o, fun b c e f h => ?_, fun _ => hl, rfl, rfl, rfl⟩
 by_cases hb : b = Wg
 · subst hb
   refine ⟨if a.spot.isSome then c else c.setIfInBounds a.off v, ?_, ?_⟩
   · unfold World.setCell
     simp only [Array.getElem?_modify, ha, if_true, h, Option.map_some]
   · split <;> simp
 · exact ⟨c, (ne b hb).trans h, rfl⟩
theorem Rels.own {t : Trace} {k : Nat} (h : Rels Wg T0 t k) (fn : FuncId) (pos : String) (es : Array Event)
   (hes : ∀ j e, es[j]? = some e → (MemAct.ofEvent e).touch? = none ∨ ((∃ ad wr, e = ⟨.cell ad, wr, true⟩ ∧ ad.block = Wg) ∧ 0 < deafBehind (Deaf t k) (es.extract 0 j))) : Rels Wg T0 (t ++ MemOp.ofEvents k fn pos es) k := by
 obtain ⟨r, h0, h1, h2, h3⟩ := h
 refine ⟨r, h0, by simp; omega, h2.appOwn fn pos es fun j e he => (hes j e he).imp id fun x => ⟨let ⟨ad, wr, e1, _⟩ := x.1; ⟨ad, wr, e1⟩, x.2⟩, fun x a hx hg ha => ?_⟩
 rcases touchAt_app ha with ⟨hlt, ha'⟩ | ⟨hge, op, hop, hio, hoa⟩
 · exact h3 x a hx (by rw [← g?_old (u := MemOp.ofEvents k fn pos es) hlt]; exact hg) ha'
 · obtain ⟨e, he, rfl⟩ := Go.Conc.mem_ofEvents hop
   obtain ⟨j, hj⟩ := Array.mem_iff_getElem?.1 he
   rcases hes j e hj with hn | ⟨⟨ad, wr, rfl, hb⟩, _⟩
   · simp only at hoa; rw [hn] at hoa; cases hoa
   · simp only [ofEvent_cell0, MemAct.touch?, Option.some.injEq] at hoa
     subst hoa
     exact ⟨⟨ad, rfl, hb⟩, rfl⟩
theorem Rels.new {t : Trace} {k : Nat} (hd : Deaf t k = 0) (ht : T0 ≤ t.size) (fn : FuncId) (pos : String) : Rels Wg T0 (t ++ MemOp.ofEvents k fn pos #[mk (.releaseMerge (stA Wg))]) k := by
 have e1 : MemOp.ofEvents k fn pos #[mk (.releaseMerge (stA Wg))] = #[{ g := k, fn, pos, act := .mark (.releaseMerge (stA Wg)) }] := by rw [ofEvents_eq]; simp [ofEvent_mk]
 refine ⟨t.size, ht, by rw [e1]; simp, RelBy.new hd fn pos, fun x a hx hg ha => ?_⟩
 rw [e1] at ha
 rcases touchAt_app ha with ⟨hlt, _⟩ | ⟨_, op, hop, _, hoa⟩
 · omega
 · simp only [List.mem_toArray, List.mem_cons, List.not_mem_nil, or_false] at hop
   subst hop
   simp [MemAct.touch?] at hoa
def Quietly (Wg : Nat) (es : Array Event) : Prop := ∀ e ∈ es, ((MemAct.ofEvent e).touch? = none ∨ ∃ (ad : Addr) (wr : Bool), e = ⟨.cell ad, wr, true⟩ ∧ ad.block = Wg) ∧ ∀ a, MemAct.ofEvent e ≠ .mark (.release a)
theorem Quietly.okK {NC : Nat → Prop} {es : Array Event} (h : Quietly Wg es) {o : Nat → Nat} {n n' i g : Nat} {kg : KG} {fn : FuncId} {pos : String} : (∀ op ∈ MemOp.ofEvents g fn pos es, ∀ b, op.act.touch? = some b → OkK Wg o n n' NC kg i b) ∧ ∀ op ∈ MemOp.ofEvents g fn pos es, ∀ a, op.act ≠ .mark (.release a) := by
 refine ⟨fun op hop b hb => ?_, fun op hop a => ?_⟩
 · obtain ⟨e, he, rfl⟩ := Go.Conc.mem_ofEvents hop
   rcases (h e he).1 with hn | ⟨ad, wr, rfl, ha⟩
   · simp only at hb; rw [hn] at hb; cases hb
   · simp only [ofEvent_cell0, MemAct.touch?, Option.some.injEq] at hb
     subst hb
     exact .inr ⟨.inl ⟨ad, rfl, ha⟩, rfl⟩
 · obtain ⟨e, he, rfl⟩ := Go.Conc.mem_ofEvents hop
   exact (h e he).2 a
theorem Quietly.okM {NC : Nat → Prop} {es : Array Event} (h : Quietly Wg es) {o : Nat → Nat} {n n' g : Nat} {Given : Cells} {Fz : Nat → Prop} {fn : FuncId} {pos : String} : (∀ op ∈ MemOp.ofEvents g fn pos es, ∀ b, op.act.touch? = some b → OkM Wg o n n' NC Given Fz b) ∧ ∀ op ∈ MemOp.ofEvents g fn pos es, ∀ a, op.act ≠ .mark (.release a) := by
 refine ⟨fun op hop b hb => ?_, fun op hop a => ?_⟩
 · obtain ⟨e, he, rfl⟩ := Go.Conc.mem_ofEvents hop
   rcases (h e he).1 with hn | ⟨ad, wr, rfl, ha⟩
   · simp only at hb; rw [hn] at hb; cases hb
   · simp only [ofEvent_cell0, MemAct.touch?, Option.some.injEq] at hb
     subst hb
     exact .inr (.inl ⟨.inl ⟨ad, rfl, ha⟩, by simp⟩)
 · obtain ⟨e, he, rfl⟩ := Go.Conc.mem_ofEvents hop
   exact (h e he).2 a
theorem quietly_nil : Quietly Wg #[] := fun e he => by simp at he
theorem quietly_mk {m : Mark} (h : ∀ a, m ≠ .release a) (h1 : ∀ a, m ≠ .read a) (h2 : ∀ a, m ≠ .write a) : Quietly Wg #[mk m] := fun e he => by
 simp only [List.mem_toArray, List.mem_cons, List.not_mem_nil, or_false] at he
 subst he
 rw [ofEvent_mk]
 refine ⟨.inl ?_, fun a e => h a (MemAct.mark.inj e)⟩
 cases m <;> first | rfl | exact absurd rfl (h1 _) | exact absurd rfl (h2 _)
theorem quietly_acc {es : Array Event} (h : ∀ e ∈ es, (∃ (ad : Addr) (wr : Bool), e = ⟨.cell ad, wr, true⟩ ∧ ad.block = Wg) ∨ e = mk .disable ∨ e = mk .enable) : Quietly Wg es := fun e he => by
 rcases h e he with ⟨ad, wr, rfl, hb⟩ | rfl | rfl
 · exact ⟨.inr ⟨ad, wr, rfl, hb⟩, fun a e => by rw [ofEvent_cell0] at e; cases e⟩
 · exact ⟨.inl rfl, fun a e => by simp [mk, MemAct.ofEvent] at e⟩
 · exact ⟨.inl rfl, fun a e => by simp [mk, MemAct.ofEvent] at e⟩
theorem quietly_mute {es : Array Event} (h : ∀ e ∈ es, Event.mute e = true) : Quietly Wg es := fun e he => by
 refine ⟨.inl (touch_mute (h e he)), fun a hh => ?_⟩
 have := h e he
 obtain ⟨loc, wr, sy⟩ := e
 cases loc with
 | mark m => cases m <;> simp_all [Event.mute, MemAct.ofEvent]
 | _ => simp_all [Event.mute]
theorem rls_live {w : World} {st sm : Int} (h : WgAt ty Wg w st sm) : WgLive ty Wg w := ⟨st, sm, h⟩
theorem kid_quiet (hN : NetOK P ty Wg N) (hb : 0 < base) {c : Cf N} {t : Trace} (hI : Inv P ty Wg N Shun base T0 c t) {i : Nat} (hi : i < c.j) {g g' : Goroutine} {w' : World} {es : Array Event} {stage fuel deaf : Nat} {st' sm' : Int}
   (hg : c.gs[base + i]? = some g) (hgo : stepG P false g c.w = .go g' w' es) (hq : Quietly Wg es) (hw : w' = c.w ∨ ∃ (a : Addr) (v : Value), a.block = Wg ∧ w' = c.w.setCell a v) (hwg : WgAt ty Wg w' st' sm')
   (hsit : (∀ o', Agr w'.heap.size c.o o' → KR ty Wg (ownK o' i) (c.D i).kg.Got (c.D i).kg.Rd c.w w') → KSit P ty Wg N c.o i (c.D i).s (c.D i).kg stage fuel deaf g' w')
   (hdf : deafBehind (c.D i).deaf es = deaf)
   (hmode : ∀ tag', (tag' = c.tag ∨ (c.tag = .blk ∧ tag' = .w3)) → (mayWake P g = true → g'.status = .running → tag' ≠ .blk) → Mode c.j (fun k => (upd c.D i ⟨(c.D i).s, (c.D i).kg, stage, fuel, deaf⟩ k).stage) tag' st' sm')
   (hrel : Rels Wg T0 (t ++ MemOp.ofEvents (base + i) g.frame.fn g.frame.place es) (base + i)) (hnp : stage ≠ 8)
   (hlt : (stage < (c.D i).stage ∧ cnt stage ≤ cnt (c.D i).stage) ∨ (stage = (c.D i).stage ∧ fuel < (c.D i).fuel)) :
   Onward P ty Wg N Shun base T0 c t (runT P (crowd c.gs c.w c.sl) (base + i)) := by
 have hG := hI.gh
 have hsz : w'.heap.size = c.w.heap.size := by
   rcases hw with rfl | ⟨a, v, _, rfl⟩
   · rfl
   · simp [World.setCell]
 have rel : ∀ {Keep : Cells}, (∀ x, ¬ Keep Wg x) → Rel ty Wg Keep c.w w' := fun hK => by
   rcases hw with e | ⟨a, v, ha, e⟩
   · rw [e]; exact Rel.refl _
   · rw [e] at hwg ⊢
     exact rel_wg ha hK (rls_live hwg)
 have hKk : ∀ o', Agr c.w.heap.size c.o o' → ∀ k, k < c.j → ∀ x, ¬ keepK (ownK o' k) (c.D k).kg.Got (c.D k).kg.Rd Wg x := fun o' ho k hk x hx => by
   rcases hx with e | e | e
   · unfold ownK at e; rw [ho _ hG.wg.1, hG.wg.2.1] at e; omega
   · exact (hG.got k hk _ _ e).2.2.1 rfl
   · exact hG.wg.2.2.2.1 (hG.rd k hk _ e)
 have same : SameCh c.w w' := by
   rcases hw with rfl | ⟨a, v, _, rfl⟩
   · exact SameCh.refl _
   · exact same_setCell _ _ _
 have hch : ∀ y b, c.cl y = some b → w'.heap[y]? = c.w.heap[y]? := fun y b hy => by
   have hne := (hG.ch y (by rw [hy]; simp)).2.2.1
   rcases hw with e | ⟨a, v, ha, e⟩
   · rw [e]
   · rw [e]; exact setCell_ne (ha ▸ hne)
 have hok := hq.okK (NC := Nc w') (o := c.o) (n := c.w.heap.size) (n' := c.w.heap.size) (i := i) (g := base + i) (kg := (c.D i).kg) (fn := g.frame.fn) (pos := g.frame.place)
 refine kidStep hN hb hI hi (x := ⟨(c.D i).s, (c.D i).kg, stage, fuel, deaf⟩) (o₁ := c.o) hg hgo (Agr.refl _ _) (fun b h1 h2 => by omega) (rel fun x hx => hx.2 (hG.wg.2.2.1 x)) (fun k hk _ => rel (hKk c.o (Agr.refl _ _) k hk))
   (hsit fun o' ho => rel (hKk o' (hsz ▸ ho) i hi)) rfl rfl ?_ hdf (fun y b hy => ?_) hwg hmode (fun _ => hrel) (fun e => absurd e hnp) hlt
 · rw [hsz]
   exact hI.tr.appK hG (Nat.le_refl _) same (fun _ hc => hsz ▸ Nc.lt hc) hi g_ofEvents hok.1 hok.2
 · rw [hch y b hy]; exact hI.chan y b hy
theorem kid_release (hN : NetOK P ty Wg N) (hb : 0 < base) {c : Cf N} {t : Trace} (hI : Inv P ty Wg N Shun base T0 c t) {i : Nat} (hi : i < c.j) {g : Goroutine} (hg : c.gs[base + i]? = some g) (h8 : (c.D i).stage = 8) (hd : (c.D i).deaf = 0) (ha : N.act (c.D i).s = .done)
   (h : ∀ o', Agr c.w.heap.size c.o o' → KStop P ty Wg N (ownK o' i) (c.D i).s (c.D i).kg.Got (c.D i).kg.Rd g c.w) : Onward P ty Wg N Shun base T0 c t (runT P (crowd c.gs c.w c.sl) (base + i)) := by
 have h0 := (h c.o (Agr.refl _ _)).2
 rw [ha] at h0
 obtain ⟨_, g', hgo, m, hm⟩ := h0
 refine kid_quiet hN hb hI hi (stage := 6) (fuel := m) (deaf := 0) hg hgo (quietly_mk (by simp) (by simp) (by simp)) (.inl rfl) hI.wg (fun hk => .k1 ha (fun o' ho w₁ h₁ => ?_) hm) (by rw [hd]; exact deafBehind_one (by simp [mk]) (by simp [mk]) 0) ?_
   (Rels.new (by rw [hI.deafK i hi]; exact hd) hI.t0 _ _) (by simp) (.inl ⟨by omega, by rw [h8]; simp [cnt]⟩)
 · have hx := (h o' ho).2
   rw [ha] at hx
   exact hx.1 w₁ h₁
 · intro tag' ht _
   have hm := hI.mode.retag ht
   have eV : Vc c.j (fun k => (upd c.D i ⟨(c.D i).s, (c.D i).kg, 6, m, 0⟩ k).stage) = Vc c.j fun k => (c.D k).stage := by
     have := Vc_upd hi c.D ⟨(c.D i).s, (c.D i).kg, 6, m, 0⟩
     rw [h8] at this
     simp [cnt] at this
     exact this
   have hop : ∀ k, k < c.j → ((c.D k).stage = 8 ∨ (c.D k).stage = 6 ∨ (c.D k).stage = 5 ∨ (c.D k).stage = 1) → (upd c.D i ⟨(c.D i).s, (c.D i).kg, 6, m, 0⟩ k).stage = 8 ∨ (upd c.D i ⟨(c.D i).s, (c.D i).kg, 6, m, 0⟩ k).stage = 6 ∨ (upd c.D i ⟨(c.D i).s, (c.D i).kg, 6, m, 0⟩ k).stage = 5 ∨ (upd c.D i ⟨(c.D i).s, (c.D i).kg, 6, m, 0⟩ k).stage = 1 := fun k hk hh => by
     by_cases hki : k = i
     · subst hki; rw [upd_same]; exact .inr (.inl rfl)
     · rw [upd_ne _ _ hki]; exact hh
   generalize hst : c.st = st at hm ⊢
   generalize hsm : c.sm = sm at hm ⊢
   cases hm with
   | opn h1 h2 h3 => rw [← eV]; exact .opn h1 (fun k hk => hop k hk (h2 k hk)) (by rw [eV]; exact h3)
   | reg h1 h2 h3 => rw [← eV]; exact .reg h1 (fun k hk => hop k hk (h2 k hk)) (by rw [eV]; exact h3)
   | last L h1 h2 h3 h4 =>
     exfalso
     by_cases hL : i = L
     · subst hL; omega
     · have := h4 i hi hL; omega
   | sema h1 => have := h1 i hi; omega
   | fin _ h1 => have := h1 i hi; omega
theorem goes_elim' {s : GStep} {K : Goroutine → World → Array Event → Prop} (h : s.goes K) : ∃ g w es, s = .go g w es ∧ K g w es := by
 cases s <;> first | exact ⟨_, _, _, rfl, h⟩ | exact h.elim
theorem goes_now {Stop : Goroutine → World → Prop} {m : Nat} {g : Goroutine} {w : World} (h : Goes P false (RL ty Wg) DC0 Stop m g w) : Stop g w ∨ ∃ k g', m = k + 1 ∧ stepG P false g w = .go g' w #[] ∧ Goes P false (RL ty Wg) DC0 Stop k g' w := by
 cases m with
 | zero => exact .inl (h w id)
 | succ k =>
   rcases h with h | ⟨_, h⟩
   · exact .inl (h w id)
   · obtain ⟨g', w', es, e, ⟨rfl, rfl⟩, hh⟩ := goes_elim' (h w id)
     exact .inr ⟨k, g', rfl, e, hh⟩
theorem stages_upd {D : Nat → KDt N} {i : Nat} {x : KDt N} {j : Nat} {p : Nat → Prop} (hx : p x.stage) (h : ∀ k, k < j → k ≠ i → p (D k).stage) : ∀ k, k < j → p ((fun k => (upd D i x k).stage) k) := fun k hk => by
 show p (upd D i x k).stage
 by_cases hki : k = i
 · subst hki; rw [upd_same]; exact hx
 · rw [upd_ne _ _ hki]; exact h k hk hki
theorem sumTo_zero {f : Nat → Nat} : ∀ {j : Nat}, sumTo j f = 0 → ∀ i, i < j → f i = 0
 | j + 1, h, i, hi => by
   simp only [sumTo] at h
   rcases Nat.lt_or_ge i j with hlt | hge
   · exact sumTo_zero (j := j) (by omega) i hlt
   · obtain rfl : i = j := by omega
     omega
theorem rd_wr_quiet (a : Addr) (ha : a.block = Wg) : Quietly Wg #[rd a, wr a] ∧ Quietly Wg #[rd a] ∧ Quietly Wg #[wr a] ∧ Quietly Wg (semEvents a) := by
 refine ⟨quietly_acc fun e he => ?_, quietly_acc fun e he => ?_, quietly_acc fun e he => ?_, quietly_acc fun e he => ?_⟩
 all_goals simp only [semEvents, List.mem_toArray, List.mem_cons, List.not_mem_nil, or_false] at he
 · rcases he with rfl | rfl <;> exact .inl ⟨a, _, rfl, ha⟩
 · subst he; exact .inl ⟨a, _, rfl, ha⟩
 · subst he; exact .inl ⟨a, _, rfl, ha⟩
 · rcases he with rfl | rfl | rfl | rfl
   · exact .inr (.inl rfl)
   · exact .inl ⟨a, _, rfl, ha⟩
   · exact .inl ⟨a, _, rfl, ha⟩
   · exact .inr (.inr rfl)
theorem Rels.deafly {t : Trace} {k d : Nat} (h : Rels Wg T0 t k) (hd : Deaf t k = d) (fn : FuncId) (pos : String) (a : Addr) (ha : a.block = Wg) (hd0 : 0 < d) :
   Rels Wg T0 (t ++ MemOp.ofEvents k fn pos #[rd a, wr a]) k ∧ Rels Wg T0 (t ++ MemOp.ofEvents k fn pos #[rd a]) k ∧ Rels Wg T0 (t ++ MemOp.ofEvents k fn pos #[wr a]) k ∧ Rels Wg T0 (t ++ MemOp.ofEvents k fn pos (semEvents a)) k := by
 refine ⟨h.own fn pos _ fun j e he => ?_, h.own fn pos _ fun j e he => ?_, h.own fn pos _ fun j e he => ?_, h.own fn pos _ fun j e he => ?_⟩
 · rcases j with _ | _ | j <;> simp at he <;> subst he <;> refine .inr ⟨⟨a, _, rfl, ha⟩, ?_⟩ <;> simp [deafBehind, rd, wr, hd, hd0]
 · rcases j with _ | j <;> simp at he <;> subst he
   exact .inr ⟨⟨a, _, rfl, ha⟩, by simp [deafBehind, hd, hd0]⟩
 · rcases j with _ | j <;> simp at he <;> subst he
   exact .inr ⟨⟨a, _, rfl, ha⟩, by simp [deafBehind, hd, hd0]⟩
 · rcases j with _ | _ | _ | _ | j <;> simp [semEvents] at he <;> subst he
   · exact .inl rfl
   · exact .inr ⟨⟨a, _, rfl, ha⟩, by simp [deafBehind, semEvents]⟩
   · exact .inr ⟨⟨a, _, rfl, ha⟩, by simp [deafBehind, semEvents]⟩
   · exact .inl rfl
end
section
variable {P : Program} {ty : TypeId} {Wg : Nat} {N : Net} {Shun : Nat → Prop} {base T0 : Nat}
theorem Mode.last' {j : Nat} {sg : Nat → Nat} {tag : MTag} (L : Nat) (h1 : isW3 tag) (h2 : L < j) (x : Nat) (hx : sg L = x) (h3 : x = 4 ∨ x = 3 ∨ x = 2) (h4 : ∀ i, i < j → i ≠ L → sg i = 1) : Mode j sg tag (if x = 2 then 0 else 1) 0 := by
 have := Mode.last (tag := tag) L h1 h2 (hx ▸ h3) h4
 rwa [hx] at this
theorem Mode.counted {j : Nat} {sg : Nat → Nat} {tag : MTag} {st sm : Int} (h : Mode j sg tag st sm) {i : Nat} (hi : i < j) (h5 : sg i = 5) : sm = 0 ∧ 1 ≤ Vc j sg ∧
   ((isOpen tag ∧ (∀ i, i < j → sg i = 8 ∨ sg i = 6 ∨ sg i = 5 ∨ sg i = 1) ∧ (∀ vs, tag = .w2 vs → Vc j sg ≤ vs ∧ 1 ≤ vs) ∧ st = ((Vc j sg + pend tag : Nat) : Int) * KK) ∨
    (isW3 tag ∧ (∀ i, i < j → sg i = 8 ∨ sg i = 6 ∨ sg i = 5 ∨ sg i = 1) ∧ st = ((Vc j sg : Nat) : Int) * KK + 1)) := by
 have hV : 1 ≤ Vc j sg := by
   have := Go.ConcN.le_sumTo (f := fun i => cnt (sg i)) hi
   simp only [h5] at this
   simpa [Vc, cnt] using this
 cases h with
 | opn h1 h2 h3 => exact ⟨rfl, hV, .inl ⟨h1, h2, h3, rfl⟩⟩
 | reg h1 h2 h3 => exact ⟨rfl, hV, .inr ⟨h1, h2, rfl⟩⟩
 | last L h1 h2 h3 h4 =>
   exfalso
   by_cases hL : i = L
   · subst hL; omega
   · have := h4 i hi hL; omega
 | sema h1 => have := h1 i hi; omega
 | fin _ h1 => have := h1 i hi; omega
theorem Mode.lastOne {j : Nat} {sg : Nat → Nat} {tag : MTag} {st sm : Int} (h : Mode j sg tag st sm) {i : Nat} (hi : i < j) (h5 : sg i = 4 ∨ sg i = 3 ∨ sg i = 2) : isW3 tag ∧ sm = 0 ∧ st = (if sg i = 2 then 0 else 1) ∧ ∀ k, k < j → k ≠ i → sg k = 1 := by
 cases h with
 | opn h1 h2 h3 => have := h2 i hi; omega
 | reg h1 h2 h3 => have := h2 i hi; omega
 | last L h1 h2 h3 h4 =>
   by_cases hL : i = L
   · subst hL; exact ⟨h1, rfl, rfl, h4⟩
   · have := h4 i hi hL; omega
 | sema h1 => have := h1 i hi; omega
 | fin _ h1 => have := h1 i hi; omega
theorem isW3_cases {tag : MTag} (h : isW3 tag) : tag = .w3 ∨ tag = .blk := by
 cases tag <;> first | exact .inl rfl | exact .inr rfl | exact h.elim
theorem isW3_re {tag tag' : MTag} (h : isW3 tag) (e : tag' = tag ∨ (tag = .blk ∧ tag' = .w3)) : isW3 tag' := by
 rcases e with rfl | ⟨_, rfl⟩
 · exact h
 · trivial
theorem isOpen_re {tag tag' : MTag} (h : isOpen tag) (e : tag' = tag ∨ (tag = .blk ∧ tag' = .w3)) : tag' = tag := by
 rcases e with rfl | ⟨rfl, _⟩
 · rfl
 · exact h.elim
theorem kid_done (hN : NetOK P ty Wg N) (hb : 0 < base) {c : Cf N} {t : Trace} (hI : Inv P ty Wg N Shun base T0 c t) {i : Nat} (hi : i < c.j) {g : Goroutine} (hg : c.gs[base + i]? = some g) (hrun : g.status = .running)
   (h6 : (c.D i).stage ≤ 6) (h : KSit P ty Wg N c.o i (c.D i).s (c.D i).kg (c.D i).stage (c.D i).fuel (c.D i).deaf g c.w) : Onward P ty Wg N Shun base T0 c t (runT P (crowd c.gs c.w c.sl) (base + i)) := by
 have hR := hI.rel i hi h6
 have hdk := hI.deafK i hi
 have hV := fun x => Vc_upd hi c.D x
 generalize hst : (c.D i).stage = stage at h h6
 generalize hfu : (c.D i).fuel = fuel at h
 generalize hde : (c.D i).deaf = deaf at h
 rw [hde] at hdk
 have plain : ∀ {fuel' : Nat} {g' : Goroutine}, stepG P false g c.w = .go g' c.w #[] → fuel = fuel' + 1 → KSit P ty Wg N c.o i (c.D i).s (c.D i).kg stage fuel' deaf g' c.w → Onward P ty Wg N Shun base T0 c t (runT P (crowd c.gs c.w c.sl) (base + i)) := by
   intro fuel' g' hgo hf hk
   refine kid_quiet hN hb hI hi (stage := stage) (fuel := fuel') (deaf := deaf) hg hgo quietly_nil (.inl rfl) hI.wg (fun _ => hk) (by rw [hde]; rfl) (fun tag' ht _ => ?_) (hR.own _ _ _ fun j e he => by simp at he) (by omega) (.inr ⟨hst.symm, by omega⟩)
   rw [stage_same (x := ⟨(c.D i).s, (c.D i).kg, stage, fuel', deaf⟩) hst.symm]
   exact hI.mode.retag ht
 have fin : ∀ {w'}, KR ty Wg (ownK c.o i) (c.D i).kg.Got (c.D i).kg.Rd c.w w' → True := fun _ => trivial
 have keep : (∀ o', Agr c.w.heap.size c.o o' → ∀ w₁, KR ty Wg (ownK o' i) (c.D i).kg.Got (c.D i).kg.Rd c.w w₁ → N.Fin (c.D i).s w₁) → ∀ {w'}, (∀ o', Agr w'.heap.size c.o o' → KR ty Wg (ownK o' i) (c.D i).kg.Got (c.D i).kg.Rd c.w w') →
     ∀ o', Agr w'.heap.size c.o o' → ∀ w₁, KR ty Wg (ownK o' i) (c.D i).kg.Got (c.D i).kg.Rd w' w₁ → N.Fin (c.D i).s w₁ := fun hf w' hk o' ho w₁ h₁ =>
   hf o' (fun b hb => ho b (Nat.lt_of_lt_of_le hb (hk o' ho).size)) w₁ ((hk o' ho).trans h₁)
 have rds := fun d0 : 0 < deaf => hR.deafly (hdk) g.frame.fn g.frame.place (stA Wg) rfl d0
 have rdm := fun d0 : 0 < deaf => hR.deafly (hdk) g.frame.fn g.frame.place (smA Wg) rfl d0
 cases h with
 | run _ => omega
 | wok _ => omega
 | pkR _ _ => cases hrun
 | pkS _ _ => cases hrun
 | k1 ha hf hG =>
   rcases goes_now hG with ⟨_, g', hgo, m, hm⟩ | ⟨k, g', e, hgo, hG'⟩
   · refine kid_quiet hN hb hI hi (stage := 5) (fuel := m) (deaf := 1) hg hgo (quietly_mk (by simp) (by simp) (by simp)) (.inl rfl) hI.wg (fun hk => .d1 ha (keep hf hk) hm) (by rw [hde]; rfl) (fun tag' ht _ => ?_)
       (hR.own _ _ _ fun j e he => by rcases j with _ | j <;> simp at he; subst he; exact .inl rfl) (by omega) (.inl ⟨by omega, by rw [hst]; simp [cnt]⟩)
     have hm := hI.mode.retag ht
     have eV := hV ⟨(c.D i).s, (c.D i).kg, 5, m, 1⟩
     rw [hst] at eV
     simp only [cnt, if_pos (show 5 ≤ 6 by omega), if_pos (Nat.le_refl 5), Nat.add_right_cancel_iff] at eV
     have hop : (∀ k, k < c.j → ((c.D k).stage = 8 ∨ (c.D k).stage = 6 ∨ (c.D k).stage = 5 ∨ (c.D k).stage = 1)) → ∀ k, k < c.j → ((fun k => (upd c.D i ⟨(c.D i).s, (c.D i).kg, 5, m, 1⟩ k).stage) k = 8 ∨ (fun k => (upd c.D i ⟨(c.D i).s, (c.D i).kg, 5, m, 1⟩ k).stage) k = 6 ∨ (fun k => (upd c.D i ⟨(c.D i).s, (c.D i).kg, 5, m, 1⟩ k).stage) k = 5 ∨ (fun k => (upd c.D i ⟨(c.D i).s, (c.D i).kg, 5, m, 1⟩ k).stage) k = 1) :=
       fun h => stages_upd (p := fun s => s = 8 ∨ s = 6 ∨ s = 5 ∨ s = 1) (.inr (.inr (.inl rfl))) fun k hk _ => h k hk
     generalize c.st = st at hm ⊢
     generalize c.sm = sm at hm ⊢
     cases hm with
     | opn h1 h2 h3 => rw [← eV]; exact .opn h1 (hop h2) (by rw [eV]; exact h3)
     | reg h1 h2 h3 => rw [← eV]; exact .reg h1 (hop h2) (by rw [eV]; exact h3)
     | last L h1 h2 h3 h4 =>
       exfalso
       by_cases hL : i = L
       · subst hL; omega
       · have := h4 i hi hL; omega
     | sema h1 => have := h1 i hi; omega
     | fin _ h1 => have := h1 i hi; omega
   · exact plain hgo e (.k1 ha hf hG')
 | d1 ha hf hG =>
   rcases goes_now hG with ⟨_, hstep⟩ | ⟨k, g', e, hgo, hG'⟩
   · -- THE ADD OF -1
     obtain ⟨hsm, hV1, hcase⟩ := hI.mode.counted hi hst
     have hwg := hI.wg
     rw [hsm] at hwg
     have hjl : c.j < 2147483647 := by
       obtain ⟨m₀, hm₀⟩ := hI.ex
       exact hN.many _ _ _ _ (hI.prot m₀ hm₀).1
     have hVj : Vc c.j (fun k => (c.D k).stage) ≤ c.j := by
       have := Go.ConcN.sumTo_le (f := fun k => cnt (c.D k).stage) (c := 1) (j := c.j) fun i _ => by simp only [cnt]; split <;> omega
       simpa [Vc] using this
     rcases hcase with ⟨h1, h2, h3, e⟩ | ⟨h1, h2, e⟩
     · -- nobody waits
       obtain ⟨v, hv⟩ : ∃ v, Vc c.j (fun k => (c.D k).stage) = v + 1 := ⟨_, (Nat.succ_pred_eq_of_pos hV1).symm⟩
       have hp : pend c.tag ≤ 1 := by cases c.tag <;> simp [pend]
       have e' : c.st = (((v + pend c.tag : Nat) : Int) + 1) * KK + ((0 : Nat) : Int) := by rw [e, hv]; simp only [KK]; push_cast; omega
       obtain ⟨g', hgo, _, hq⟩ := hstep (v + pend c.tag) 0 (by omega) (by omega) (by rw [← e']; exact hwg)
       obtain ⟨q, hq⟩ := hq (by simp)
       refine kid_quiet hN hb hI hi (stage := 1) (fuel := q) (deaf := 1) hg hgo (rd_wr_quiet (stA Wg) rfl).1 (.inr ⟨_, _, rfl, rfl⟩) (hwg.setSt _) (fun hk => .quit ha (keep hf hk) hq) (by rw [hde]; rfl) (fun tag' ht _ => ?_)
         (rds (by omega)).1 (by omega) (.inl ⟨by omega, by rw [hst]; simp [cnt]⟩)
       have htag := isOpen_re h1 ht
       rw [htag]
       have eV := hV ⟨(c.D i).s, (c.D i).kg, 1, q, 1⟩
       rw [hst] at eV
       simp only [cnt, if_pos (Nat.le_refl 5), if_neg (show ¬ 5 ≤ 1 by omega)] at eV
       have eV' : Vc c.j (fun k => (upd c.D i ⟨(c.D i).s, (c.D i).kg, 1, q, 1⟩ k).stage) = v := by omega
       have := Mode.opn (j := c.j) (sg := fun k => (upd c.D i ⟨(c.D i).s, (c.D i).kg, 1, q, 1⟩ k).stage) h1 (stages_upd (p := fun s => s = 8 ∨ s = 6 ∨ s = 5 ∨ s = 1) (.inr (.inr (.inr rfl))) fun k hk _ => h2 k hk) (fun vs hvs => by have := h3 vs hvs; omega)
       rw [eV'] at this
       simpa using this
     · -- goroutine 0 waits
       obtain ⟨v, hv⟩ : ∃ v, Vc c.j (fun k => (c.D k).stage) = v + 1 := ⟨_, (Nat.succ_pred_eq_of_pos hV1).symm⟩
       have e' : c.st = ((v : Int) + 1) * KK + ((1 : Nat) : Int) := by rw [e, hv]; simp only [KK]; push_cast; omega
       obtain ⟨g', hgo, hlast, hq⟩ := hstep v 1 (by omega) (by omega) (by rw [← e']; exact hwg)
       by_cases hv0 : v = 0
       · obtain ⟨m, hm⟩ := hlast ⟨hv0, rfl⟩
         refine kid_quiet hN hb hI hi (stage := 4) (fuel := m) (deaf := 1) hg hgo (rd_wr_quiet (stA Wg) rfl).1 (.inr ⟨_, _, rfl, rfl⟩) (hwg.setSt _) (fun hk => .d2 ha (keep hf hk) hm) (by rw [hde]; rfl) (fun tag' ht _ => ?_)
           (rds (by omega)).1 (by omega) (.inl ⟨by omega, by rw [hst]; simp [cnt]⟩)
         have eV := hV ⟨(c.D i).s, (c.D i).kg, 4, m, 1⟩
         rw [hst] at eV
         simp only [cnt, if_pos (Nat.le_refl 5), if_neg (show ¬ 5 ≤ 4 by omega)] at eV
         have eV' : Vc c.j (fun k => (upd c.D i ⟨(c.D i).s, (c.D i).kg, 4, m, 1⟩ k).stage) = 0 := by omega
         have hz := sumTo_zero eV'
         have hs4 : (fun k => (upd c.D i ⟨(c.D i).s, (c.D i).kg, 4, m, 1⟩ k).stage) i = 4 := by simp only [upd_same]
         have := Mode.last' (j := c.j) (sg := fun k => (upd c.D i ⟨(c.D i).s, (c.D i).kg, 4, m, 1⟩ k).stage) i (isW3_re h1 ht) hi 4 hs4 (by omega) (fun k hk hki => by
           have h0 := hz k hk
           have h8 := h2 k hk
           simp only [upd_ne _ _ hki, cnt] at h0 ⊢
           split at h0 <;> omega)
         simpa [hv0] using this
       · obtain ⟨q, hq⟩ := hq (fun x => hv0 x.1)
         refine kid_quiet hN hb hI hi (stage := 1) (fuel := q) (deaf := 1) hg hgo (rd_wr_quiet (stA Wg) rfl).1 (.inr ⟨_, _, rfl, rfl⟩) (hwg.setSt _) (fun hk => .quit ha (keep hf hk) hq) (by rw [hde]; rfl) (fun tag' ht _ => ?_)
           (rds (by omega)).1 (by omega) (.inl ⟨by omega, by rw [hst]; simp [cnt]⟩)
         have eV := hV ⟨(c.D i).s, (c.D i).kg, 1, q, 1⟩
         rw [hst] at eV
         simp only [cnt, if_pos (Nat.le_refl 5), if_neg (show ¬ 5 ≤ 1 by omega)] at eV
         have eV' : Vc c.j (fun k => (upd c.D i ⟨(c.D i).s, (c.D i).kg, 1, q, 1⟩ k).stage) = v := by omega
         have := Mode.reg (j := c.j) (sg := fun k => (upd c.D i ⟨(c.D i).s, (c.D i).kg, 1, q, 1⟩ k).stage) (isW3_re h1 ht) (stages_upd (p := fun s => s = 8 ∨ s = 6 ∨ s = 5 ∨ s = 1) (.inr (.inr (.inr rfl))) fun k hk _ => h2 k hk) (by omega)
         rw [eV'] at this
         simpa using this
   · exact plain hgo e (.d1 ha hf hG')
 | d2 ha hf hG =>
   rcases goes_now hG with ⟨_, hstep⟩ | ⟨k, g', e, hgo, hG'⟩
   · obtain ⟨h1, hsm, hs, ho⟩ := hI.mode.lastOne hi (.inl hst)
     simp only [hst] at hs
     have hs' : c.st = 1 := by rw [hs]; rfl
     have hwg := hI.wg
     rw [hsm, hs'] at hwg
     obtain ⟨g', hgo, m, hm⟩ := hstep hwg
     refine kid_quiet hN hb hI hi (stage := 3) (fuel := m) (deaf := 1) hg hgo (rd_wr_quiet (stA Wg) rfl).2.1 (.inl rfl) hwg (fun hk => .d3 ha (keep hf hk) hm) (by rw [hde]; rfl) (fun tag' ht _ => ?_) (rds (by omega)).2.1 (by omega) (.inl ⟨by omega, by simp [cnt]⟩)
     have hs4 : (fun k => (upd c.D i ⟨(c.D i).s, (c.D i).kg, 3, m, 1⟩ k).stage) i = 3 := by simp only [upd_same]
     have := Mode.last' (j := c.j) (sg := fun k => (upd c.D i ⟨(c.D i).s, (c.D i).kg, 3, m, 1⟩ k).stage) i (isW3_re h1 ht) hi 3 hs4 (by omega) (fun k hk hki => by simp only [upd_ne _ _ hki]; exact ho k hk hki)
     simpa using this
   · exact plain hgo e (.d2 ha hf hG')
 | d3 ha hf hG =>
   rcases goes_now hG with ⟨_, hstep⟩ | ⟨k, g', e, hgo, hG'⟩
   · obtain ⟨h1, hsm, hs, ho⟩ := hI.mode.lastOne hi (.inr (.inl hst))
     simp only [hst] at hs
     have hs' : c.st = 1 := by rw [hs]; rfl
     have hwg := hI.wg
     rw [hsm, hs'] at hwg
     obtain ⟨g', hgo, m, hm⟩ := hstep hwg
     refine kid_quiet hN hb hI hi (stage := 2) (fuel := m) (deaf := 1) hg hgo (rd_wr_quiet (stA Wg) rfl).2.2.1 (.inr ⟨_, _, rfl, rfl⟩) (hwg.setSt _) (fun hk => .d4 ha (keep hf hk) hm) (by rw [hde]; rfl) (fun tag' ht _ => ?_) (rds (by omega)).2.2.1 (by omega) (.inl ⟨by omega, by simp [cnt]⟩)
     have hs4 : (fun k => (upd c.D i ⟨(c.D i).s, (c.D i).kg, 2, m, 1⟩ k).stage) i = 2 := by simp only [upd_same]
     have := Mode.last' (j := c.j) (sg := fun k => (upd c.D i ⟨(c.D i).s, (c.D i).kg, 2, m, 1⟩ k).stage) i (isW3_re h1 ht) hi 2 hs4 (by omega) (fun k hk hki => by simp only [upd_ne _ _ hki]; exact ho k hk hki)
     simpa using this
   · exact plain hgo e (.d3 ha hf hG')
 | d4 ha hf hG =>
   rcases goes_now hG with ⟨_, hwake, hstep⟩ | ⟨k, g', e, hgo, hG'⟩
   · obtain ⟨h1, hsm, hs, ho⟩ := hI.mode.lastOne hi (.inr (.inr hst))
     simp only [hst] at hs
     have hs' : c.st = 0 := by rw [hs]; rfl
     have hwg := hI.wg
     rw [hsm, hs'] at hwg
     obtain ⟨g', hgo, q, hq⟩ := hstep hwg
     refine kid_quiet hN hb hI hi (stage := 1) (fuel := q) (deaf := 1) hg hgo (rd_wr_quiet (smA Wg) rfl).2.2.2 (.inr ⟨_, _, rfl, rfl⟩) (hwg.setSm _) (fun hk => .quit ha (keep hf hk) hq) (by rw [hde]; rfl) (fun tag' ht hwk => ?_) (rdm (by omega)).2.2.2 (by omega) (.inl ⟨by omega, by simp [cnt]⟩)
     have hgr : g'.status = .running := by
       cases q with
       | zero => exact absurd hq.2 (by omega)
       | succ q => exact hq.elim (fun x => absurd x.2 (by omega)) (·.1)
     have htag : tag' = .w3 := (isW3_cases (isW3_re h1 ht)).resolve_right (hwk hwake hgr)
     rw [htag]
     exact .sema (stages_upd (p := fun s => s = 1) rfl fun k hk hki => ho k hk hki)
   · exact plain hgo e (.d4 ha hf hG')
 | quit ha hf hq =>
   cases fuel with
   | zero => rw [hq.1] at hrun; cases hrun
   | succ q =>
     rcases hq with ⟨h1, _⟩ | ⟨_, g', es, hmu, hgo, hq'⟩
     · rw [h1] at hrun; cases hrun
     refine kid_quiet hN hb hI hi (stage := 1) (fuel := q) (deaf := deafBehind deaf es) hg (hgo c.w) (quietly_mute hmu) (.inl rfl) hI.wg (fun hk => .quit ha (keep hf hk) hq') (by rw [hde]) (fun tag' ht _ => ?_)
       (hR.own _ _ _ fun j e he => .inl (touch_mute (hmu e (Array.mem_of_getElem? he)))) (by omega) (.inr ⟨hst.symm, by omega⟩)
     rw [stage_same (x := ⟨(c.D i).s, (c.D i).kg, 1, q, deafBehind deaf es⟩) hst.symm]
     exact hI.mode.retag ht
end
section
variable {P : Program} {ty : TypeId} {Wg : Nat} {N : Net} {Shun : Nat → Prop} {base T0 : Nat}
theorem open_of {c : Cf N} {t : Trace} (hN : NetOK P ty Wg N) (hI : Inv P ty Wg N Shun base T0 c t) {w' : World} (hchan : ∀ y b, c.cl y = some b → ∃ k, w'.heap[y]? = some (.chan 0 #[] b k k false)) {k : Nat} (hk : k < c.j)
   (h8 : (c.D k).stage = 8) (h0 : (c.D k).fuel = 0) (y : Nat) (hy : N.act (c.D k).s = .recv y ∨ ∃ v, N.act (c.D k).s = .send y v) : ∃ q, w'.heap[y]? = some (.chan 0 #[] false q q false) := by
 obtain ⟨m₀, hm₀⟩ := hI.ex
 rcases hy with hy | ⟨v, hy⟩
 · exact hchan y false (hI.pOpen k hk h8 h0 y hy)
 · exact hchan y false (((hN.chans _ _ _ _ (hI.prot m₀ hm₀).1).2 k hk).2 y v hy)
theorem mainStep (hN : NetOK P ty Wg N) (hb : 0 < base) {c : Cf N} {t : Trace} (hI : Inv P ty Wg N Shun base T0 c t) {a a' : Goroutine} {w' : World} {es : Array Event} {o₁ : Nat → Nat} {tag' : MTag} {Q' : N.M → Prop} {B' f' d' : Nat} {st' sm' : Int}
   (ha : c.gs[0]? = some a) (hgo : stepG P true a c.w = .go a' w' es) (hag : Agr c.w.heap.size c.o o₁) (hsz : c.w.heap.size ≤ w'.heap.size) (hnew : ∀ b, c.w.heap.size ≤ b → b < w'.heap.size → o₁ b = 0)
   (hKR : ∀ k, k < c.j → KR ty Wg (ownK c.o k) (c.D k).kg.Got (c.D k).kg.Rd c.w w')
   (hsit : MSit P ty Wg N o₁ c.Given c.Fz tag' Q' f' d' a' w')
   (htr : Tr Wg Shun o₁ w'.heap.size c.Given c.Fz base c.j (fun i => (c.D i).kg) T0 (Nc w') (t ++ MemOp.ofEvents 0 a.frame.fn a.frame.place es))
   (hdf : deafBehind c.d0 es = d')
   (hchan : ∀ y b, c.cl y = some b → ∃ k, w'.heap[y]? = some (.chan 0 #[] b k k false)) (hwg : WgAt ty Wg w' st' sm')
   (hmode : Mode c.j (fun k => (c.D k).stage) tag' st' sm') (hprot : ∀ m, Q' m → N.I m c.j (fun i => (c.D i).s) c.cl ∧ N.muM m ≤ B') (hex : ∃ m, Q' m) (hpk : tag' ≠ .pk)
   (hlt : phi c.j (Vc c.j fun k => (c.D k).stage) B' tag' < phi c.j (Vc c.j fun k => (c.D k).stage) c.B c.tag ∨ (phi c.j (Vc c.j fun k => (c.D k).stage) B' tag' = phi c.j (Vc c.j fun k => (c.D k).stage) c.B c.tag ∧ f' < c.f0)) :
   Onward P ty Wg N Shun base T0 c t (runT P (crowd c.gs c.w c.sl) 0) := by
 have hrun := runT_crowd_go (P := P) (sl := c.sl) ha (by simpa using hgo)
 have hsz0 : 0 < c.gs.size := by rw [hI.size]; omega
 have hothers : ∀ op ∈ MemOp.ofEvents 0 a.frame.fn a.frame.place es, op.g = 0 := g_ofEvents
 refine ⟨{ c with gs := (c.gs.map (woken P a a' w')).setIfInBounds 0 a', w := w', o := o₁, tag := tag', Q := Q', B := B', f0 := f', d0 := d', st := st', sm := sm' }, ?_, ?_, ?_⟩
 · rw [hrun]
 · show (_ ∨ _)
   simp only [mu1, mu2]
   rcases hlt with h | ⟨h1, h2⟩
   · left; omega
   · right; omega
 · rw [hrun]
   refine ⟨by simp [hI.size], ⟨_, get_map_set_same _ _ _ _ hsz0, hsit⟩, fun k hk => ?_, fun k y hk0 hkb hy => ?_, fun k hk => ?_, fun k hk => ?_, ?_, ?_, htr, hchan, hwg, hmode, fun k hk hsg => ?_, hprot, hex, ?_, hI.pOpen, hI.pKK, fun htg => absurd htg hpk⟩
   · obtain ⟨y, hy, hsy⟩ := hI.kids k hk
     refine ⟨_, by rw [get_map_set _ _ _ _ _ (by omega), hy]; rfl, ?_⟩
     have hsy' := hsy.rely (hKR k hk) hag
     rw [hsy'.woken hN a a' fun h8 h0 y hy => open_of hN hI hchan hk h8 h0 y hy]
     exact hsy'
   · rw [get_map_set _ _ _ _ _ (by omega)] at hy
     obtain ⟨z, hz, rfl⟩ := Option.map_eq_some_iff.1 hy
     have hq := hI.old k z hk0 hkb hz
     rw [woken_quitsD hq, Deaf_other t (by omega) _ hothers]
     exact hq
   · have hk' : base + c.j ≤ k := hk
     rw [Deaf_other t (g' := 0) (by omega) _ hothers]; exact hI.above k hk
   · rw [Deaf_other t (g' := 0) (by omega) _ hothers]; exact hI.deafK k hk
   · rw [Deaf_own, hI.deaf0]; exact hdf
   · exact hI.gh.grow hag hsz fun b h1 h2 => by show o₁ b ≤ c.j; rw [hnew b h1 h2]; omega
   · exact (hI.rel k hk hsg).app fun op hop e => by rw [hothers op hop] at e; omega
   · have := hI.t0; simp; omega
theorem main_quiet (hN : NetOK P ty Wg N) (hb : 0 < base) {c : Cf N} {t : Trace} (hI : Inv P ty Wg N Shun base T0 c t) {a a' : Goroutine} {w' : World} {es : Array Event} {tag' : MTag} {Q' : N.M → Prop} {B' f' d' : Nat} {st' sm' : Int}
   (ha : c.gs[0]? = some a) (hgo : stepG P true a c.w = .go a' w' es) (hq : Quietly Wg es) (hw : w' = c.w ∨ ∃ (a : Addr) (v : Value), a.block = Wg ∧ w' = c.w.setCell a v) (hwg : WgAt ty Wg w' st' sm')
   (hsit : w'.heap.size = c.w.heap.size → MSit P ty Wg N c.o c.Given c.Fz tag' Q' f' d' a' w') (hdf : deafBehind c.d0 es = d')
   (hmode : Mode c.j (fun k => (c.D k).stage) tag' st' sm') (hprot : ∀ m, Q' m → N.I m c.j (fun i => (c.D i).s) c.cl ∧ N.muM m ≤ B') (hex : ∃ m, Q' m) (hpk : tag' ≠ .pk)
   (hlt : phi c.j (Vc c.j fun k => (c.D k).stage) B' tag' < phi c.j (Vc c.j fun k => (c.D k).stage) c.B c.tag ∨ (phi c.j (Vc c.j fun k => (c.D k).stage) B' tag' = phi c.j (Vc c.j fun k => (c.D k).stage) c.B c.tag ∧ f' < c.f0)) :
   Onward P ty Wg N Shun base T0 c t (runT P (crowd c.gs c.w c.sl) 0) := by
 have hG := hI.gh
 have hsz : w'.heap.size = c.w.heap.size := by
   rcases hw with rfl | ⟨a, v, _, rfl⟩
   · rfl
   · simp [World.setCell]
 have rel : ∀ {Keep : Cells}, (∀ x, ¬ Keep Wg x) → Rel ty Wg Keep c.w w' := fun hK => by
   rcases hw with e | ⟨a, v, ha, e⟩
   · rw [e]; exact Rel.refl _
   · rw [e] at hwg ⊢
     exact rel_wg ha hK (rls_live hwg)
 have same : SameCh c.w w' := by
   rcases hw with rfl | ⟨a, v, _, rfl⟩
   · exact SameCh.refl _
   · exact same_setCell _ _ _
 have hch : ∀ y b, c.cl y = some b → w'.heap[y]? = c.w.heap[y]? := fun y b hy => by
   have hne := (hG.ch y (by rw [hy]; simp)).2.2.1
   rcases hw with e | ⟨a, v, ha, e⟩
   · rw [e]
   · rw [e]; exact setCell_ne (ha ▸ hne)
 have hok := hq.okM (NC := Nc w') (o := c.o) (n := c.w.heap.size) (n' := c.w.heap.size) (g := 0) (Given := c.Given) (Fz := c.Fz) (fn := a.frame.fn) (pos := a.frame.place)
 refine mainStep hN hb hI (o₁ := c.o) ha hgo (Agr.refl _ _) (by omega) (fun b h1 h2 => by omega) (fun k hk => rel fun x hx => ?_) (hsit hsz) ?_ hdf (fun y b hy => by rw [hch y b hy]; exact hI.chan y b hy) hwg hmode hprot hex hpk hlt
 · rcases hx with e | e | e
   · unfold ownK at e; rw [hG.wg.2.1] at e; omega
   · exact (hG.got k hk _ _ e).2.2.1 rfl
   · exact hG.wg.2.2.2.1 (hG.rd k hk _ e)
 · rw [hsz]
   exact hI.tr.appM hG (Nat.le_refl _) same (fun _ hc => hsz ▸ Nc.lt hc) g_ofEvents hok.1 hok.2
theorem main_plain (hN : NetOK P ty Wg N) (hb : 0 < base) {c : Cf N} {t : Trace} (hI : Inv P ty Wg N Shun base T0 c t) {a : Goroutine} (ha : c.gs[0]? = some a) {m : Nat} {Stop : (Nat → Nat) → Goroutine → World → Prop} {tag' : MTag}
   (h : ∀ o', Agr c.w.heap.size c.o o' → (stepG P true a c.w).goes fun a' w' es => MD Wg (own0 o') c.Given c.Fz c.w w' es ∧ (New (own0 o') c.w w' → MGoo P ty Wg (own0 o') c.Given c.Fz (Stop o') m a' w'))
   (hpk : tag' ≠ .pk) (htag : tag' = c.tag) {f' : Nat}
   (hsit : ∀ o₁ a' w', (∀ o', Agr w'.heap.size o₁ o' → MGoo P ty Wg (own0 o') c.Given c.Fz (Stop o') m a' w') → MSit P ty Wg N o₁ c.Given c.Fz tag' c.Q f' c.d0 a' w') (hf : f' < c.f0) :
   Onward P ty Wg N Shun base T0 c t (runT P (crowd c.gs c.w c.sl) 0) := by
 have h0 := h c.o (Agr.refl _ _)
 cases hgo : stepG P true a c.w with
 | go a' w' es =>
   rw [hgo] at h h0
   simp only [goes_go] at h h0
   have hG := hI.gh
   let o₁ : Nat → Nat := fun b => if b < c.w.heap.size then c.o b else 0
   have hag : Agr c.w.heap.size c.o o₁ := fun b hb => by simp [o₁, hb]
   have hnew : ∀ b, c.w.heap.size ≤ b → b < w'.heap.size → o₁ b = 0 := fun b h1 _ => by
     have : ¬ b < c.w.heap.size := by omega
     simp [o₁, this]
   have hD := (h o₁ hag).1
   have hwr : ∀ b x, b < c.w.heap.size → writM (own0 o₁) c.Given c.Fz b x → c.o b = 0 ∧ ¬ c.Given b x ∧ ¬ c.Fz b := fun b x hb hx => ⟨by have := hx.1; unfold own0 at this; rw [hag b hb] at this; exact this, hx.2⟩
   have hwgw : ∀ x, ¬ writM (own0 o₁) c.Given c.Fz Wg x := fun x hx => hx.2.1 (hG.wg.2.2.1 x)
   have hchw : ∀ y, c.cl y ≠ none → ∀ x, ¬ writM (own0 o₁) c.Given c.Fz y x := fun y hy x hx => hx.2.1 ((hG.ch y hy).2.2.2 x)
   have hst := evOK_still hD.evs
   refine mainStep hN hb hI (o₁ := o₁) (st' := c.st) (sm' := c.sm) (tag' := tag') (Q' := c.Q) (B' := c.B) (f' := f') (d' := c.d0) ha hgo hag hD.size hnew (fun k hk => hD.rel (fun b x hb hkk hx => ?_) hG.wg.1 hwgw)
     (hsit o₁ a' w' fun o' ho => (h o' (hag.of hD.size ho)).2 fun b h1 h2 => by unfold own0; rw [ho b h2]; exact hnew b h1 h2) ?_ (deafBehind_still hst.1 _) (fun y b hy => ?_) ?_ ?_ hI.prot hI.ex hpk (.inr ⟨by rw [htag], hf⟩)
   · obtain ⟨h1, h2, h3⟩ := hwr _ _ hb hx
     rcases hkk with e' | e' | e'
     · unfold ownK at e'; omega
     · exact h2 (hG.got k hk _ _ e').1
     · exact h3 (hG.rd k hk _ e')
   · exact (hI.tr.agr hag).appM (Gh.grow hG hag (Nat.le_refl _) fun b h1 h2 => by omega) hD.size hD.kind (fun _ => Nc.lt) g_ofEvents (okM_of hnew hD.evs) (hst.2 _ _ _)
   · obtain ⟨k, hk⟩ := hI.chan y b hy
     exact ⟨k, (hD.blk y (hG.ch y (by rw [hy]; simp)).1 (hchw y (by rw [hy]; simp))).trans hk⟩
   · exact hI.wg.of_block (hD.blk Wg hG.wg.1 hwgw)
   · rw [htag]; exact hI.mode
 | _ => rw [hgo] at h0; exact h0.elim
theorem oldStep (hN : NetOK P ty Wg N) {c : Cf N} {t : Trace} (hI : Inv P ty Wg N Shun base T0 c t) {i : Nat} (hi0 : 0 < i) (hib : i < base) {g : Goroutine} (hg : c.gs[i]? = some g) (hrun : g.status = .running) :
   Onward P ty Wg N Shun base T0 c t (runT P (crowd c.gs c.w c.sl) i) := by
 have hq := hI.old i g hi0 hib hg
 cases hqi : c.q i with
 | zero => rw [hqi] at hq; rw [hq.1] at hrun; cases hrun
 | succ q =>
   rw [hqi] at hq
   rcases hq with ⟨h1, _⟩ | ⟨_, g', es, hmu, hgo, hq'⟩
   · rw [h1] at hrun; cases hrun
   have hi1 : (i == 0) = false := by simp; omega
   have hrunT := runT_crowd_go (P := P) (sl := c.sl) hg (by rw [hi1]; exact hgo c.w)
   have hszi : i < c.gs.size := by rw [hI.size]; omega
   obtain ⟨a, ha, hma⟩ := hI.main
   obtain ⟨m₀, hm₀⟩ := hI.ex
   obtain ⟨tag', f', hm', hf', htag, hwk, hsame⟩ := hma.wokenBy hN g g' (fun _ m y v hQ hy => hI.chan y false ((hN.chans _ _ _ _ (hI.prot m hQ).1).1 y v hy))
   have hothers : ∀ op ∈ MemOp.ofEvents i g.frame.fn g.frame.place es, op.g = i := g_ofEvents
   have hsum : sumTo base (upd c.q i q) + (q + 1) = sumTo base c.q + q := by
     have := sumTo_upd c.q q id hib
     simpa [hqi] using this
   refine ⟨{ c with gs := (c.gs.map (woken P g g' c.w)).setIfInBounds i g', tag := tag', f0 := f', q := upd c.q i q }, ?_, ?_, ?_⟩
   · rw [hrunT]
   · show (_ ∨ _)
     simp only [mu1, mu2]
     have hp : phi c.j (Vc c.j fun k => (c.D k).stage) c.B tag' = phi c.j (Vc c.j fun k => (c.D k).stage) c.B c.tag := by
       rcases htag with e | ⟨e, e'⟩
       · rw [e]
       · rw [e, e']; rfl
     right
     omega
   · rw [hrunT]
     refine ⟨by simp [hI.size], ⟨_, by rw [get_map_set _ _ _ _ _ (by omega), ha]; rfl, hm'⟩, fun k hk => ?_, fun k y hk0 hkb hy => ?_, fun k hk => ?_, fun k hk => ?_, ?_, hI.gh, ?_, hI.chan, hI.wg, hI.mode.retag htag, fun k hk hsg => ?_, hI.prot, hI.ex, ?_, hI.pOpen, hI.pKK, fun htg => ?_⟩
     · obtain ⟨y, hy, hsy⟩ := hI.kids k hk
       refine ⟨_, by rw [get_map_set _ _ _ _ _ (by omega), hy]; rfl, ?_⟩
       rw [hsy.woken hN g g' fun h8 h0 y hy => open_of hN hI hI.chan hk h8 h0 y hy]
       exact hsy
     · by_cases hki : k = i
       · subst hki
         rw [get_map_set_same _ _ _ _ hszi] at hy
         obtain rfl := Option.some.inj hy
         show QuitsD P (upd c.q k q k) _ _
         rw [upd_same, Deaf_own]
         exact hq'
       · rw [get_map_set _ _ _ _ _ hki] at hy
         obtain ⟨z, hz, rfl⟩ := Option.map_eq_some_iff.1 hy
         have hqk := hI.old k z hk0 hkb hz
         show QuitsD P (upd c.q i q k) _ _
         rw [woken_quitsD hqk, upd_ne _ _ hki, Deaf_other t (fun e => hki e.symm) _ hothers]
         exact hqk
     · have hk' : base + c.j ≤ k := hk
       rw [Deaf_other t (g' := i) (by omega) _ hothers]; exact hI.above k hk
     · rw [Deaf_other t (g' := i) (by omega) _ hothers]; exact hI.deafK k hk
     · rw [Deaf_other t (g' := i) (by omega) _ hothers]; exact hI.deaf0
     · refine hI.tr.appN (fun op hop => ?_) ((quietly_mute (Wg := Wg) hmu).okM (NC := fun _ => True) (o := c.o) (n := 0) (n' := 0) (Given := c.Given) (Fz := c.Fz)).2
       obtain ⟨e, he, rfl⟩ := Go.Conc.mem_ofEvents hop
       exact touch_mute (hmu e he)
     · exact (hI.rel k hk hsg).app fun op hop e => by rw [hothers op hop] at e; omega
     · have := hI.t0; simp; omega
     · rcases htag with e | ⟨_, e⟩
       · exact hI.pMK (e ▸ htg)
       · rw [e] at htg; cases htg
end
end Go.Proofs.Ytblpmdolclalnaa
