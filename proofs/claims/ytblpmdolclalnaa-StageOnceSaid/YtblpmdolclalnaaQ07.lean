/- The step of a child at an atomic access of a cell that all children turn. Every step of a child at its stop; goroutine 0's send. Goroutine 0 in Wait; every step of a child; every step of goroutine 0. -/
import Derived.Test.YtblpmdolclalnaaQ06
set_option maxHeartbeats 16000000
set_option linter.unusedSimpArgs false
set_option linter.unusedVariables false
namespace Go.Proofs.Ytblpmdolclalnaa
open Go.Conc
open Go.ConcR (WgAt KK stA smA rd wr mk DC0 deafBehind_cons deafBehind_one ofEvent_mk)
open Go.ConcN (WgLive sumTo upd upd_same upd_ne sumTo_upd sumTo_congr RelBy)
theorem atomW_size (w : World) (b y : Nat) (p : Option Value) : (atomW w b y p).heap.size = w.heap.size := by
 cases p with
 | none => rfl
 | some v => simp [atomW, World.setCell]
theorem atomW_ne {w : World} {b y : Nat} {p : Option Value} {b' : Nat} (h : b' ≠ b) : (atomW w b y p).heap[b']? = w.heap[b']? := by
 cases p with
 | none => rfl
 | some v => exact setCell_ne (a := ⟨b, y, none⟩) h
theorem atomW_cell {w : World} {b y : Nat} {p : Option Value} {v : Value} (h : w.cell? ⟨b, y, none⟩ = some v) (b' y' : Nat) :
   (atomW w b y p).cell? ⟨b', y', none⟩ = if b' = b ∧ y' = y then some (p.getD v) else w.cell? ⟨b', y', none⟩ := by
 cases p with
 | none =>
   split
   · rename_i e; obtain ⟨rfl, rfl⟩ := e; exact h
   · rfl
 | some x =>
   by_cases hb : b' = b
   · subst hb
     simp only [World.cell?] at h ⊢
     cases hc : w.heap[b']? with
     | none => rw [hc] at h; cases h
     | some o =>
       rw [hc] at h
       cases o with
       | cells c e f =>
         simp only [Option.isSome_none, Bool.false_eq_true, if_false] at h ⊢
         have hx : (atomW w b' y (some x)).heap[b']? = some (.cells (c.setIfInBounds y x) e f) := by
           unfold atomW World.setCell
           simp [Array.getElem?_modify, hc]
         rw [hx]
         by_cases hy : y' = y
         · subst hy
           have hlt : y' < c.size := by
             cases hh : c[y']? with
             | none => simp [hh] at h
             | some z => exact (Array.getElem?_eq_some_iff.1 hh).1
           simp [hlt]
         · have : ¬ y = y' := fun e => hy e.symm
           simp [hy, Array.getElem?_setIfInBounds_ne this]
       | _ => simp at h
   · have hn : ¬ (b' = b ∧ y' = y) := fun e => hb e.1
     rw [if_neg hn]
     exact cell?_eq (setCell_ne (a := ⟨b, y, none⟩) hb) y'
theorem same_atomW (w : World) (b y : Nat) (p : Option Value) : SameCh w (atomW w b y p) := by
 cases p with
 | none => exact SameCh.refl _
 | some v => exact same_setCell _ _ _
section
variable {P : Program} {ty : TypeId} {Wg : Nat} {N : Net} {Shun : Nat → Prop} {base T0 : Nat}
theorem rel_atom {Keep : Cells} {w : World} {b y : Nat} {p : Option Value} (hK : ∀ x, ¬ Keep b x) (hb : b ≠ Wg) : Rel ty Wg Keep w (atomW w b y p) := by
 have ne : ∀ b', b' ≠ b → (atomW w b y p).heap[b']? = w.heap[b']? := fun b' h => atomW_ne h
 refine ⟨by rw [atomW_size]; exact Nat.le_refl _, fun b' _ k => ne b' fun e => hK 0 (e ▸ k 0), fun b' o _ k => cell?_eq (ne b' fun e => hK o (e ▸ k)) o, fun b' c e f h => ?_, fun ⟨st, sm, hl⟩ => ⟨st, sm, hl.of_block (ne _ (Ne.symm hb))⟩, ?_, ?_, ?_⟩
 · by_cases hbb : b' = b
   · subst hbb
     cases p with
     | none => exact ⟨c, h, rfl⟩
     | some v => exact ⟨c.setIfInBounds y v, by unfold atomW World.setCell; simp [Array.getElem?_modify, h], by simp⟩
   · exact ⟨c, (ne b' hbb).trans h, rfl⟩
 all_goals cases p <;> rfl
theorem atomE_mem {b y : Nat} {p : Option Value} {e : Event} (h : e ∈ atomE b y p) : ∃ wr, e = ⟨.cell ⟨b, y, none⟩, wr, true⟩ := by
 cases p with
 | none =>
   simp only [atomE, List.mem_toArray, List.mem_cons, List.not_mem_nil, or_false] at h
   exact ⟨_, h⟩
 | some v =>
   simp only [atomE, List.mem_toArray, List.mem_cons, List.not_mem_nil, or_false] at h
   rcases h with h | h <;> exact ⟨_, h⟩
theorem kid_atom (hN : NetOK P ty Wg N) (hb : 0 < base) {c : Cf N} {t : Trace} (hI : Inv P ty Wg N Shun base T0 c t) {i : Nat} (hi : i < c.j) {g : Goroutine} (hg : c.gs[base + i]? = some g) {b y : Nat} (h8 : (c.D i).stage = 8) (hd : (c.D i).deaf = 0) (ha : N.act (c.D i).s = .atom b y)
   (h : ∀ o', Ag c o' → KStop P ty Wg N (ownK o' i) (c.D i).s (c.D i).kg.Got (c.D i).kg.Rd g c.w) : Onward P ty Wg N Shun base T0 c t (runT P (crowd c.gs c.w c.sl) (base + i)) := by
 obtain ⟨m₀, hm₀⟩ := hI.ex
 obtain ⟨hcel, hok, _, hmu, hval⟩ := hN.atom _ _ _ _ _ _ _ (hI.prot m₀ hm₀).1 hi ha
 have hc := hI.cells b y hcel
 have hI2 : ∀ m, c.Q m → N.I m c.j (upd (fun k => (c.D k).s) i (N.turn (c.D i).s (N.val c.j (fun k => (c.D k).s) b y))) c.cl := fun m hm => (hN.atom _ _ _ _ _ _ _ (hI.prot m hm).1 hi ha).2.2.1
 generalize N.val c.j (fun k => (c.D k).s) b y = v at hok hmu hval hc hI2
 have h0 := fun o' ho => (h o' ho).2
 rw [ha] at h0
 have hG := hI.gh
 have hab := hG.ab b ⟨y, hcel⟩
 have hkeepO : ∀ o', Ag c o' → ∀ x, ¬ keepK (ownK o' i) (c.D i).kg.Got (c.D i).kg.Rd b x := fun o' ho x hx => by
   rcases hx with e | e | e
   · unfold ownK at e; rw [ho b hab.1.1, hab.1.2.1] at e; omega
   · exact (hG.got i hi _ _ e).2.2.1 (.inr ⟨y, hcel⟩)
   · exact hab.1.2.2.2.1 (hG.rd i hi _ e)
 obtain ⟨g', hgo, _⟩ := h0 c.o (Agr.refl _ _) (hkeepO _ (Agr.refl _ _)) hab.2 v hok hc
 have hsz := atomW_size c.w b y (N.put (c.D i).s v)
 have hkeepK : ∀ k, k < c.j → ∀ x, ¬ keepK (ownK c.o k) (c.D k).kg.Got (c.D k).kg.Rd b x := fun k hk x hx => by
   rcases hx with e | e | e
   · unfold ownK at e; rw [hab.1.2.1] at e; omega
   · exact (hG.got k hk _ _ e).2.2.1 (.inr ⟨y, hcel⟩)
   · exact hab.1.2.2.2.1 (hG.rd k hk _ e)
 have hthem : ∀ k, k < c.j → KR ty Wg (ownK c.o k) (c.D k).kg.Got (c.D k).kg.Rd c.w (atomW c.w b y (N.put (c.D i).s v)) := fun k hk => rel_atom (hkeepK k hk) hab.2
 have hev : ∀ e ∈ atomE b y (N.put (c.D i).s v), e.loc ≠ .mark .disable ∧ e.loc ≠ .mark .enable := fun e he => by
   obtain ⟨wr, rfl⟩ := atomE_mem he
   simp
 refine kidTurn hN hb hI hi (x := ⟨N.turn (c.D i).s v, (c.D i).kg, 8, N.fuel + 2, 0⟩) (o₁ := c.o) (st' := c.st) (sm' := c.sm) hg hgo (Agr.refl _ _) (fun b h1 h2 => by omega) (rel_atom (fun x hx => hx.2 (hab.1.2.2.1 x)) hab.2) (fun k hk _ => hthem k hk)
   (.run fun o' ho => ?_) rfl hI2 (fun b' y' hb' => ?_) ?_ ?_ (fun z bb hz => ?_) (hI.wg.of_block (atomW_ne hab.2.symm)) ?_ (fun e => by simp at e) (fun _ => by simp) (.inl ⟨by simp only [kmu, h8]; omega, by rw [h8]; exact Nat.le_refl _⟩)
 · have ho' : Ag c o' := by rw [hsz] at ho; exact ho
   obtain ⟨g'', hgo', hr⟩ := h0 o' ho' (hkeepO o' ho') hab.2 v hok hc
   rw [hgo] at hgo'
   cases hgo'
   exact hr
 · rw [atomW_cell hc, hval b' y' hb']
   split
   · rfl
   · exact hI.cells b' y' hb'
 · rw [hsz]
   refine hI.tr.appK hG (Nat.le_refl _) (same_atomW _ _ _ _) (fun _ hc => hsz ▸ Nc.lt hc) hi g_ofEvents (fun op hop bb hbb => ?_) (fun op hop a e => ?_)
   · obtain ⟨e, he, rfl⟩ := Go.Conc.mem_ofEvents hop
     obtain ⟨wr, rfl⟩ := atomE_mem he
     simp only [ofEvent_cell0, MemAct.touch?, Option.some.injEq] at hbb
     subst hbb
     exact .inr ⟨.inl ⟨_, rfl, .inr ⟨y, hcel⟩⟩, rfl⟩
   · obtain ⟨e', he, rfl⟩ := Go.Conc.mem_ofEvents hop
     obtain ⟨wr, rfl⟩ := atomE_mem he
     rw [ofEvent_cell0] at e; cases e
 · rw [hd]; exact deafBehind_still hev 0
 · have hzb : z ≠ b := fun e => ab_ne hI ⟨y, hcel⟩ (by rw [hz]; simp) e.symm
   rw [atomW_ne hzb]
   exact hI.chan z bb hz
 · intro tag' ht _
   rw [stage_same h8.symm]
   exact hI.mode.retag ht
end
section
variable {P : Program} {ty : TypeId} {Wg : Nat} {N : Net} {Shun : Nat → Prop} {base T0 : Nat}
theorem Mode.pk_of {j : Nat} {sg : Nat → Nat} {st sm : Int} (h : Mode j sg .run st sm) : Mode j sg .pk st sm := by
 cases h with
 | opn h1 h2 h3 => exact Mode.opn (tag := .pk) trivial h2 (fun vs hvs => by cases hvs)
 | reg h1 _ _ => exact h1.elim
 | last L h1 _ _ _ => exact h1.elim
 | fin h1 _ => exact h1.elim
theorem kid_stop (hN : NetOK P ty Wg N) (hb : 0 < base) {c : Cf N} {t : Trace} (hI : Inv P ty Wg N Shun base T0 c t) {i : Nat} (hi : i < c.j) {g : Goroutine} (hg : c.gs[base + i]? = some g) (h8 : (c.D i).stage = 8) (hf : 0 < (c.D i).fuel) (hd : (c.D i).deaf = 0)
   (h : ∀ o', Ag c o' → ∀ w₁, KR ty Wg (ownK o' i) (c.D i).kg.Got (c.D i).kg.Rd c.w w₁ → KStop P ty Wg N (ownK o' i) (c.D i).s (c.D i).kg.Got (c.D i).kg.Rd g w₁) : Onward P ty Wg N Shun base T0 c t (runT P (crowd c.gs c.w c.sl) (base + i)) := by
 have hi0 : (base + i == 0) = false := by simp; omega
 have hnow : ∀ o', Ag c o' → KStop P ty Wg N (ownK o' i) (c.D i).s (c.D i).kg.Got (c.D i).kg.Rd g c.w := fun o' ho => h o' ho c.w (Rel.refl _)
 obtain ⟨m₀, hm₀⟩ := hI.ex
 have hI0 := (hI.prot m₀ hm₀).1
 have hchs := hN.chans _ _ _ _ hI0
 have hops : ∀ fn pos, MemOp.ofEvents (base + i) fn pos #[] = #[] := fun _ _ => by simp [MemOp.ofEvents]
 cases hact : N.act (c.D i).s with
 | done => exact kid_release hN hb hI hi hg h8 hd hact hnow
 | shut y => exact kid_shut hN hb hI hi hg h8 hd hact hnow
 | atom b y => exact kid_atom hN hb hI hi hg h8 hd hact hnow
 | recv y =>
   have h0 := (hnow c.o (Agr.refl _ _)).2
   rw [hact] at h0
   obtain ⟨hst, _⟩ := h0
   have hA : ∀ o', Ag c o' → Await P ty Wg N (ownK o' i) (c.D i).s (c.D i).kg.Got (c.D i).kg.Rd y (bare g) c.w := fun o' ho => by
     have := (hnow o' ho).2; rw [hact] at this; exact this.2
   have hst' : stepG P (base + i == 0) g c.w = .comm (bare g) #[rcase y (N.zero (c.D i).s)] true (N.shape (c.D i).s) c.w #[] := by rw [hi0]; exact hst
   obtain ⟨b, hcl⟩ : ∃ b, c.cl y = some b := Option.ne_none_iff_exists'.1 ((hchs.2 i hi).1 y hact)
   obtain ⟨q, hch⟩ := hI.chan y b hcl
   have hpart := fun j' k' (hp : (j', k') ∈ partners (c.gs.setIfInBounds (base + i) ph) y true) => partner_of hN hI hp
   cases b with
   | true =>
     have hp : partners (c.gs.setIfInBounds (base + i) ph) y true = [] := by
       apply List.eq_nil_iff_forall_not_mem.2
       rintro ⟨j', k'⟩ hp
       rcases (hpart j' k' hp).2.2 with ⟨k, _, hk, _, _, ⟨_, v, hv⟩ | ⟨hf, _⟩⟩ | ⟨_, _, _, m, v, hQ, hv⟩
       · have := (hchs.2 k hk).2 y v hv; rw [hcl] at this; cases this
       · cases hf
       · have := (hN.chans _ _ _ _ (hI.prot m hQ).1).1 y v hv; rw [hcl] at this; cases this
     rw [crowd_recv_closed hg hst' hch hp, hops]
     obtain ⟨hok, _⟩ := hN.ends _ _ _ _ _ _ hI0 hi hact hcl
     refine kid_self hI hi (x := ⟨N.ended (c.D i).s, (c.D i).kg, 8, N.fuel + 2, 0⟩) rfl h8 hd.symm rfl (.run fun o' ho => (hA o' ho).2 hok c.w (Rel.refl _)) (fun op hop => ?_) hb (fun m hm => (hN.ends _ _ _ _ _ _ (hI.prot m hm).1 hi hact hcl).2) (fun b y hb => hN.vEnd c.j (fun k => (c.D k).s) i hi hok b y hb) (.inl (hN.lessE _ hok)) (fun e => by simp at e)
     simp only [Array.mem_append, List.mem_toArray, List.mem_cons, List.not_mem_nil, or_false] at hop
     rcases hop with hop | rfl
     · simp at hop
     · simp [MemAct.touch?]
   | false =>
     by_cases hp : partners (c.gs.setIfInBounds (base + i) ph) y true = []
     · -- it parks
       rw [crowd_waits hg hst' (fun cc hcc => by
         simp only [List.mem_toArray, List.mem_cons, List.not_mem_nil, or_false] at hcc
         subst hcc
         exact ways_recv_none hch hp), hops]
       have hnp := none_parked hI hp
       refine kid_self hI hi (x := ⟨(c.D i).s, (c.D i).kg, 8, 0, 0⟩) rfl h8 hd.symm rfl (.pkR hact h) (fun op hop => by simp at hop) hb (fun m hm => ?_) (fun b y _ => by rw [show upd (fun k => (c.D k).s) i (c.D i).s = fun k => (c.D k).s by funext k; unfold upd; split <;> simp_all]) (.inr ⟨rfl, hf⟩) (fun _ => ⟨fun z hz => ?_, fun z v hz => ?_⟩)
       · have e : upd (fun k => (c.D k).s) i (c.D i).s = fun k => (c.D k).s := by funext k; unfold upd; split <;> simp_all
         rw [e]; exact (hI.prot m hm).1
       · rw [hact] at hz
         cases hz
         exact ⟨hcl, fun k hk hki e8 e0 => (hnp.1 k hk (by omega) e8 e0).1 rfl, fun ht m hm v => hnp.2 rfl (by omega) ht m v hm⟩
       · rw [hact] at hz; cases hz
     · -- it meets somebody
       obtain ⟨j', gj, vj, zj, shj, d, hne, hgj, hrun⟩ := crowd_recv_meets_some (sl := c.sl) hg hst' hch hp (fun j' k' hm => by
         obtain ⟨h0, hne, hcase⟩ := hpart j' k' hm
         refine ⟨h0, hne, ?_⟩
         rcases hcase with ⟨k, rfl, hk, e8, e0, ⟨_, v, hv⟩ | ⟨hf, _⟩⟩ | ⟨_, rfl, ht, m2, v2, hQ2, hm2⟩
         · obtain ⟨z, hz, hs⟩ := hI.kids k hk
           obtain ⟨g', rfl, _⟩ := hs.parkedS e8 e0 hv
           exact ⟨_, _, _, _, hz⟩
         · cases hf
         · obtain ⟨a, ha, hma⟩ := hI.main
           obtain ⟨m, g', y', v', hQ, hu, hm', rfl, _⟩ := hma.parkedM ht
           have : y' = y := by
             rw [hu m2 hQ2, hm'] at hm2
             cases hm2
             rfl
           subst this
           exact ⟨_, _, _, _, ha⟩)
       rw [hrun, hops, Array.empty_append]
       have hmem : ∃ k', (j', k') ∈ partners (c.gs.setIfInBounds (base + i) ph) y true := ⟨0, mem_partners.2 ⟨_, stand_get hne hgj, by rw [offersAt_parked_send]; simp⟩⟩
       obtain ⟨k', hmem⟩ := hmem
       have hszg : base + i < c.gs.size := by rw [hI.size]; omega
       rcases (hpart j' k' hmem).2.2 with ⟨k, rfl, hk, e8, e0, ⟨_, v, hv⟩ | ⟨hf, _⟩⟩ | ⟨_, rfl, ht, m, v, hQ, hm⟩
       · obtain ⟨z, hz, hs⟩ := hI.kids k hk
         obtain ⟨g', rfl, hd', hks⟩ := hs.parkedS e8 e0 hv
         rw [hz] at hgj
         have hki : k ≠ i := fun e => hne (by rw [e])
         obtain ⟨ec, es, ef⟩ := parked_fin (P := P) (Option.some.inj hgj).symm #[scase y vj zj] shj 0 undef false
         simp only [scase, Array.mk.injEq, List.cons.injEq, CommCase.mk.injEq, Option.some.injEq, and_true, true_and] at ec
         obtain ⟨rfl, rfl⟩ := ec
         subst es
         have hk' : k < c.gs.size := by rw [hI.size]; omega
         have hszk : base + k < c.gs.size := by rw [hI.size]; omega
         refine meet_kids hN hb hI hk hi hki e8 hd' hv h8 hd hact (gi := bare g') (gk := bare g) (fun o' ho => ?_) hA hch (by simp) ?_ ?_ (fun x h1 h2 => ?_) meet_ops
         · have := (hks o' ho c.w (Rel.refl _)).2
           rw [hv] at this
           exact this.2
         · rw [Array.getElem?_setIfInBounds_ne (by omega), ef]
           simp [hszk]
         · simp [hszg]
         · rw [Array.getElem?_setIfInBounds_ne (by omega), Array.getElem?_setIfInBounds_ne (by omega)]
       · cases hf
       · obtain ⟨a, ha, hma⟩ := hI.main
         obtain ⟨m', g', y', v', hQ', hu, hm', rfl, hd', hms⟩ := hma.parkedM ht
         obtain rfl := hu m hQ
         rw [hm] at hm'
         cases hm'
         rw [ha] at hgj
         obtain ⟨ec, es, ef⟩ := parked_fin (P := P) (Option.some.inj hgj).symm #[scase y vj zj] shj 0 undef false
         simp only [scase, Array.mk.injEq, List.cons.injEq, CommCase.mk.injEq, Option.some.injEq, and_true, true_and] at ec
         obtain ⟨rfl, rfl⟩ := ec
         subst es
         have hsz0 : 0 < c.gs.size := by omega
         refine meet_main hN hb hI hQ hm (.inr ht) hd' hi h8 hd hact (gm := bare g') (gk := bare g) (fun o' ho => ?_) hA hch (by simp) ?_ ?_ (fun x h1 h2 => ?_) meet_ops (fun x d0 di hx => meet_knows d0 di hx)
         · have := (hms o' ho c.w (Rel.refl _)).2
           rw [hm] at this
           exact this.2
         · rw [Array.getElem?_setIfInBounds_ne (by omega), ef]
           simp [hsz0]
         · simp [hszg]
         · rw [Array.getElem?_setIfInBounds_ne (by omega), Array.getElem?_setIfInBounds_ne (by omega)]
 | send y v =>
   have h0 := (hnow c.o (Agr.refl _ _)).2
   rw [hact] at h0
   obtain ⟨hst, _⟩ := h0
   have hO : ∀ o', Ag c o' → Offer P ty Wg N (ownK o' i) (c.D i).s (c.D i).kg.Got (c.D i).kg.Rd y v (bare g) c.w := fun o' ho => by
     have := (hnow o' ho).2; rw [hact] at this; exact this.2
   have hst' : stepG P (base + i == 0) g c.w = .comm (bare g) #[scase y v (N.zero (c.D i).s)] true .send c.w #[] := by rw [hi0]; exact hst
   have hcl : c.cl y = some false := (hchs.2 i hi).2 y v hact
   obtain ⟨q, hch⟩ := hI.chan y false hcl
   have hpart := fun j' k' (hp : (j', k') ∈ partners (c.gs.setIfInBounds (base + i) ph) y false) => partner_of hN hI hp
   by_cases hp : partners (c.gs.setIfInBounds (base + i) ph) y false = []
   · rw [crowd_waits hg hst' (fun cc hcc => by
       simp only [List.mem_toArray, List.mem_cons, List.not_mem_nil, or_false] at hcc
       subst hcc
       exact ways_send_none hch (by simp) hp), hops]
     have hnp := none_parked hI hp
     refine kid_self hI hi (x := ⟨(c.D i).s, (c.D i).kg, 8, 0, 0⟩) rfl h8 hd.symm rfl (.pkS hact h) (fun op hop => by simp at hop) hb (fun m hm => ?_) (fun b y _ => by rw [show upd (fun k => (c.D k).s) i (c.D i).s = fun k => (c.D k).s by funext k; unfold upd; split <;> simp_all]) (.inr ⟨rfl, hf⟩) (fun _ => ⟨fun z hz => ?_, fun z v hz => ?_⟩)
     · have e : upd (fun k => (c.D k).s) i (c.D i).s = fun k => (c.D k).s := by funext k; unfold upd; split <;> simp_all
       rw [e]; exact (hI.prot m hm).1
     · rw [hact] at hz; cases hz
     · rw [hact] at hz
       cases hz
       exact fun k hk hki e8 e0 => (hnp.1 k hk (by omega) e8 e0).2 rfl
   · obtain ⟨j', gj, zj, shj, d, hne, hgj, hrun⟩ := crowd_send_meets_some (sl := c.sl) hg hst' hch hp (fun j' k' hm => by
       obtain ⟨h0, hne, hcase⟩ := hpart j' k' hm
       refine ⟨h0, hne, ?_⟩
       rcases hcase with ⟨k, rfl, hk, e8, e0, ⟨hf, _⟩ | ⟨_, hv⟩⟩ | ⟨hf, _⟩
       · cases hf
       · obtain ⟨z, hz, hs⟩ := hI.kids k hk
         obtain ⟨g', rfl, _⟩ := hs.parkedR e8 e0 hv
         exact ⟨_, _, _, hz⟩
       · cases hf)
     rw [hrun, hops, Array.empty_append]
     have hmem : ∃ k', (j', k') ∈ partners (c.gs.setIfInBounds (base + i) ph) y false := ⟨0, mem_partners.2 ⟨_, stand_get hne hgj, by rw [offersAt_parked_recv]; simp⟩⟩
     obtain ⟨k', hmem⟩ := hmem
     have hszg : base + i < c.gs.size := by rw [hI.size]; omega
     rcases (hpart j' k' hmem).2.2 with ⟨k, rfl, hk, e8, e0, ⟨hf, _⟩ | ⟨_, hv⟩⟩ | ⟨hf, _⟩
     · cases hf
     · obtain ⟨z, hz, hs⟩ := hI.kids k hk
       obtain ⟨g', rfl, hd', hks⟩ := hs.parkedR e8 e0 hv
       rw [hz] at hgj
       have hki : k ≠ i := fun e => hne (by rw [e])
       obtain ⟨ec, es, ef⟩ := parked_fin (P := P) (Option.some.inj hgj).symm #[rcase y zj] shj 0 v true
       simp only [rcase, Array.mk.injEq, List.cons.injEq, CommCase.mk.injEq, and_true, true_and] at ec
       obtain rfl := ec
       subst es
       have hszk : base + k < c.gs.size := by rw [hI.size]; omega
       refine meet_kids hN hb hI hi hk (Ne.symm hki) h8 hd hact e8 hd' hv (gi := bare g) (gk := bare g') hO (fun o' ho => ?_) hch (by simp) ?_ ?_ (fun x h1 h2 => ?_) meet_ops
       · have := (hks o' ho c.w (Rel.refl _)).2
         rw [hv] at this
         exact this.2
       · simp [hszg]
       · rw [Array.getElem?_setIfInBounds_ne (by omega), ef]
         simp [hszk]
       · rw [Array.getElem?_setIfInBounds_ne (by omega), Array.getElem?_setIfInBounds_ne (by omega)]
     · cases hf
theorem main_send (hN : NetOK P ty Wg N) (hb : 0 < base) {c : Cf N} {t : Trace} (hI : Inv P ty Wg N Shun base T0 c t) {a : Goroutine} (ha : c.gs[0]? = some a) {m : N.M} {y : Nat} {v : Value} (hQ : c.Q m) (hm : N.mact m = .send y v) (htag : c.tag = .run) (hd0 : c.d0 = 0) (hf : 0 < c.f0)
   (h : ∀ o', Ag c o' → ∀ w₁, MR ty Wg (own0 o') c.Given c.w w₁ → MStop P ty Wg N (own0 o') m c.Given c.Fz a w₁) : Onward P ty Wg N Shun base T0 c t (runT P (crowd c.gs c.w c.sl) 0) := by
 have hnow : ∀ o', Ag c o' → MStop P ty Wg N (own0 o') m c.Given c.Fz a c.w := fun o' ho => h o' ho c.w (Rel.refl _)
 have hI0 := (hI.prot m hQ).1
 have h0 := (hnow c.o (Agr.refl _ _)).2
 rw [hm] at h0
 obtain ⟨hst, _⟩ := h0
 have hM : ∀ o', Ag c o' → MOffer P ty Wg N (own0 o') m c.Given c.Fz y v (bare a) c.w := fun o' ho => by
   have := (hnow o' ho).2; rw [hm] at this; exact this.2
 have hst' : stepG P (0 == 0) a c.w = .comm (bare a) #[scase y v (N.mzero m)] true .send c.w #[] := hst
 have hcl : c.cl y = some false := (hN.chans _ _ _ _ hI0).1 y v hm
 obtain ⟨q, hch⟩ := hI.chan y false hcl
 have hops : ∀ fn pos, MemOp.ofEvents 0 fn pos #[] = #[] := fun _ _ => by simp [MemOp.ofEvents]
 have hpart := fun j' k' (hp : (j', k') ∈ partners (c.gs.setIfInBounds 0 ph) y false) => partner_of hN hI hp
 have hsz0 : 0 < c.gs.size := by rw [hI.size]; omega
 by_cases hp : partners (c.gs.setIfInBounds 0 ph) y false = []
 · rw [crowd_waits ha hst' (fun cc hcc => by
     simp only [List.mem_toArray, List.mem_cons, List.not_mem_nil, or_false] at hcc
     subst hcc
     exact ways_send_none hch (by simp) hp), hops]
   have hnp := none_parked hI hp
   refine ⟨{ c with gs := c.gs.setIfInBounds 0 (parked (bare a) #[scase y v (N.mzero m)] .send), tag := .pk, Q := (· = m), f0 := 0, d0 := 0 }, rfl, ?_, ?_⟩
   · show (_ ∨ _)
     right
     refine ⟨?_, ?_⟩
     · simp only [mu1, htag, phi]
     · simp only [mu2]; omega
   · rw [Array.append_empty]
     refine ⟨by simp [hI.size], ⟨_, by simp [hsz0], .pk hm h⟩, fun k hk => ?_, fun k z hk0 hkb hz => ?_, hI.above, hI.deafK, by rw [hI.deaf0, hd0], hI.gh, hI.tr, hI.chan, hI.wg, ?_, hI.rel, fun m' hm' => by obtain rfl : m' = m := hm'; exact hI.prot _ hQ, ⟨m, rfl⟩, hI.t0, hI.pOpen, hI.pKK, fun _ m' hm' i z w hi e8 e0 hz => ?_, hI.cells⟩
     · obtain ⟨z, hz, hs⟩ := hI.kids k hk
       exact ⟨z, by rw [Array.getElem?_setIfInBounds_ne (by omega)]; exact hz, hs⟩
     · have hz' : (c.gs.setIfInBounds 0 _)[k]? = some z := hz
       rw [Array.getElem?_setIfInBounds_ne (by omega)] at hz'
       exact hI.old k z hk0 hkb hz'
     · have := hI.mode
       rw [htag] at this
       exact this.pk_of
     · obtain rfl : m' = m := hm'
       rw [hm]
       intro e
       cases e
       exact (hnp.1 i hi (by omega) e8 e0).2 rfl hz
 · obtain ⟨j', gj, zj, shj, d, hne, hgj, hrun⟩ := crowd_send_meets_some (sl := c.sl) ha hst' hch hp (fun j' k' hmm => by
     obtain ⟨h0, hne, hcase⟩ := hpart j' k' hmm
     refine ⟨h0, hne, ?_⟩
     rcases hcase with ⟨k, rfl, hk, e8, e0, ⟨hf, _⟩ | ⟨_, hv⟩⟩ | ⟨hf, _⟩
     · cases hf
     · obtain ⟨z, hz, hs⟩ := hI.kids k hk
       obtain ⟨g', rfl, _⟩ := hs.parkedR e8 e0 hv
       exact ⟨_, _, _, hz⟩
     · cases hf)
   rw [hrun, hops, Array.empty_append]
   have hmem : ∃ k', (j', k') ∈ partners (c.gs.setIfInBounds 0 ph) y false := ⟨0, mem_partners.2 ⟨_, stand_get hne hgj, by rw [offersAt_parked_recv]; simp⟩⟩
   obtain ⟨k', hmem⟩ := hmem
   rcases (hpart j' k' hmem).2.2 with ⟨k, rfl, hk, e8, e0, ⟨hf, _⟩ | ⟨_, hv⟩⟩ | ⟨hf, _⟩
   · cases hf
   · obtain ⟨z, hz, hs⟩ := hI.kids k hk
     obtain ⟨g', rfl, hd', hks⟩ := hs.parkedR e8 e0 hv
     rw [hz] at hgj
     obtain ⟨ec, es, ef⟩ := parked_fin (P := P) (Option.some.inj hgj).symm #[rcase y zj] shj 0 v true
     simp only [rcase, Array.mk.injEq, List.cons.injEq, CommCase.mk.injEq, and_true, true_and] at ec
     obtain rfl := ec
     subst es
     have hszk : base + k < c.gs.size := by rw [hI.size]; omega
     refine meet_main hN hb hI hQ hm (.inl htag) hd0 hk e8 hd' hv (gm := bare a) (gk := bare g') hM (fun o' ho => ?_) hch (by simp) ?_ ?_ (fun x h1 h2 => ?_) meet_ops (fun x d0 di hx => meet_knows d0 di hx)
     · have := (hks o' ho c.w (Rel.refl _)).2
       rw [hv] at this
       exact this.2
     · simp [hsz0]
     · rw [Array.getElem?_setIfInBounds_ne (by omega), ef]
       simp [hszk]
     · rw [Array.getElem?_setIfInBounds_ne (by omega), Array.getElem?_setIfInBounds_ne (by omega)]
   · cases hf
end
theorem goo_alls {P : Program} {main : Bool} {A : (Nat → Nat) → Prop} {own : (Nat → Nat) → Nat → Prop} {R : (Nat → Nat) → World → World → Prop} {D : (Nat → Nat) → World → World → Array Event → Prop} {Stop : (Nat → Nat) → Goroutine → World → Prop} {f : Nat} {g : Goroutine} {w : World}
   (refl : ∀ o w, R o w w) (hex : ∃ o, A o) (h : ∀ o, A o → Goo P main (own o) (R o) (D o) (Stop o) f g w)
   (hno : ∀ o, A o → Stop o g w → ∀ o', A o' → ∀ m, ¬ (stepG P main g w).goes fun g' w' es => D o' w w' es ∧ (New (own o') w w' → Goo P main (own o') (R o') (D o') (Stop o') m g' w')) :
   (∀ o, A o → ∀ w₁, R o w w₁ → Stop o g w₁) ∨ ∃ m, f = m + 1 ∧ ∀ o, A o → (stepG P main g w).goes fun g' w' es => D o w w' es ∧ (New (own o) w w' → Goo P main (own o) (R o) (D o) (Stop o) m g' w') := by
 have now : ∀ o, A o → (∀ w₁, R o w w₁ → Stop o g w₁) ∨ ∃ m, f = m + 1 ∧ (stepG P main g w).goes fun g' w' es => D o w w' es ∧ (New (own o) w w' → Goo P main (own o) (R o) (D o) (Stop o) m g' w') := fun o ho => by
   have := h o ho
   cases f with
   | zero => exact .inl this
   | succ m => exact Or.imp id (fun x => ⟨m, rfl, x.2 w (refl o w)⟩) this
 by_cases hs : ∃ o, A o ∧ Stop o g w
 · obtain ⟨o, ho, hs⟩ := hs
   left
   intro o' ho'
   rcases now o' ho' with x | ⟨m, _, x⟩
   · exact x
   · exact absurd x (hno o ho hs o' ho' m)
 · right
   obtain ⟨o, ho⟩ := hex
   rcases now o ho with x | ⟨m, e, _⟩
   · exact absurd ⟨o, ho, x w (refl o w)⟩ hs
   · refine ⟨m, e, fun o' ho' => ?_⟩
     rcases now o' ho' with x | ⟨m', e', x⟩
     · exact absurd ⟨o', ho', x w (refl o' w)⟩ hs
     · obtain rfl : m' = m := by omega
       exact x
section
variable {P : Program} {ty : TypeId} {Wg : Nat} {N : Net} {Shun : Nat → Prop} {base T0 : Nat}
theorem main_w1 (hN : NetOK P ty Wg N) (hb : 0 < base) {c : Cf N} {t : Trace} (hI : Inv P ty Wg N Shun base T0 c t) {a : Goroutine} (ha : c.gs[0]? = some a) (htag : c.tag = .w1) (h : MSit P ty Wg N c.o c.Given c.Fz c.tag c.Q c.f0 c.d0 a c.w) : Onward P ty Wg N Shun base T0 c t (runT P (crowd c.gs c.w c.sl) 0) := by
 generalize hf : c.f0 = f at h
 generalize hd : c.d0 = d at h
 generalize hQ : c.Q = Q at h
 generalize htg : c.tag = tg at h
 rw [htag] at htg
 subst htg
 cases h with
 | @w1 m f g w hm h =>
   have hwg := hI.wg
   have hmode := hI.mode
   rw [htag] at hmode
   have hmany := hN.many _ _ _ _ (hI.prot m (by rw [hQ])).1
   have hpr : ∀ m', m' = m → N.I m' c.j (fun i => (c.D i).s) c.cl ∧ N.muM m' ≤ c.B := fun m' e => hI.prot m' (by rw [hQ]; exact e)
   generalize hst : c.st = st at hwg hmode
   generalize hsm : c.sm = sm at hwg hmode
   cases hmode with
   | reg h1 _ _ => exact h1.elim
   | last L h1 _ _ _ => exact h1.elim
   | fin h1 _ => exact h1.elim
   | opn h1 h2 h3 =>
     have hv := vc_le c.j (fun k => (c.D k).stage)
     have hV : Vc c.j (fun k => (c.D k).stage) < 2147483648 := by omega
     simp only [pend, Nat.add_zero] at hwg
     rcases goo_all (fun o w => Rel.refl w) (ag_ex c) h (fun o ho hs o' ho' m' => by
       obtain ⟨g', hgo, _⟩ := hs.2 _ hV hwg
       exact no_at hgo (a := stA Wg) (b := false) (by simp [rd])) with hs | ⟨k, e, hs⟩
     · obtain ⟨g', hgo, _⟩ := (hs c.o (Agr.refl _ _)).2 _ hV hwg
       have same : ∀ {g'' : Goroutine}, stepG P true a c.w = .go g'' c.w #[rd (stA Wg)] → g'' = g' := fun e => by rw [hgo] at e; cases e; rfl
       by_cases hv0 : Vc c.j (fun k => (c.D k).stage) = 0
       · refine main_quiet hN hb hI (tag' := .kw) (Q' := (· = m)) (B' := c.B) (f' := N.fuel) (d' := 1) (st' := 0) (sm' := 0) ha hgo (rd_wr_quiet (stA Wg) rfl).2.1 (.inl rfl) (by rw [hv0] at hwg; simpa using hwg) (fun hsz => .kw hm fun o' ho => ?_) (by rw [hd]; rfl) ?_ hpr ⟨m, rfl⟩ (by simp) (.inl (by rw [htag]; simp only [phi]; omega))
         · obtain ⟨g'', hgo', hg, _⟩ := (hs o' ho).2 _ hV hwg
           rw [← same hgo']
           exact hg hv0
         · have hz := sumTo_zero hv0
           exact .fin trivial fun i hi => by
             have h0 := hz i hi
             have h8 := h2 i hi
             simp only [cnt] at h0
             split at h0 <;> omega
       · refine main_quiet hN hb hI (tag' := .w2 (Vc c.j fun k => (c.D k).stage)) (Q' := (· = m)) (B' := c.B) (f' := N.fuel) (d' := 1) ha hgo (rd_wr_quiet (stA Wg) rfl).2.1 (.inl rfl) hwg (fun hsz => .w2 hm fun o' ho => ?_) (by rw [hd]; rfl) ?_ hpr ⟨m, rfl⟩ (by simp) (.inl (by rw [htag]; simp only [phi]; omega))
         · obtain ⟨g'', hgo', _, hg⟩ := (hs o' ho).2 _ hV hwg
           rw [← same hgo']
           exact hg hv0
         · have := Mode.opn (tag := .w2 (Vc c.j fun k => (c.D k).stage)) (j := c.j) (sg := fun k => (c.D k).stage) trivial h2 (fun vs hvs => by cases hvs; omega)
           simpa [pend] using this
     · refine main_plain hN hb hI ha (m := k) (Stop := fun o' => AtW1 P ty Wg N (own0 o') m c.Given c.Fz) (tag' := .w1) (f' := k) hs (by simp) htag.symm (fun o₁ a' w' hh => ?_) (by omega)
       rw [hQ, hd]
       exact .w1 hm hh
theorem anch_w1 (hN : NetOK P ty Wg N) {o : Nat → Nat} {m : N.M} {Given : Cells} {Fz : Nat → Prop} {n : Nat} {g : Goroutine} {w : World} (h : MGoo P ty Wg (own0 o) Given Fz (N.Anch (own0 o) m Given Fz) n g w) : MGoo P ty Wg (own0 o) Given Fz (AtW1 P ty Wg N (own0 o) m Given Fz) (N.fuel + n) g w :=
 Goo.bind (fun a => Rel.refl a) (fun _ _ x => (hN.anch _ _ _ _ _ _ x).2) h
theorem main_w2 (hN : NetOK P ty Wg N) (hb : 0 < base) {c : Cf N} {t : Trace} (hI : Inv P ty Wg N Shun base T0 c t) {a : Goroutine} (ha : c.gs[0]? = some a) {vs : Nat} (htag : c.tag = .w2 vs) (h : MSit P ty Wg N c.o c.Given c.Fz c.tag c.Q c.f0 c.d0 a c.w) : Onward P ty Wg N Shun base T0 c t (runT P (crowd c.gs c.w c.sl) 0) := by
 generalize hf : c.f0 = f at h
 generalize hd : c.d0 = d at h
 generalize hQ : c.Q = Q at h
 generalize htg : c.tag = tg at h
 rw [htag] at htg
 subst htg
 cases h with
 | @w2 m _ f g w hm h =>
   have hwg := hI.wg
   have hmode := hI.mode
   rw [htag] at hmode
   have hmany := hN.many _ _ _ _ (hI.prot m (by rw [hQ])).1
   have hpr : ∀ m', m' = m → N.I m' c.j (fun i => (c.D i).s) c.cl ∧ N.muM m' ≤ c.B := fun m' e => hI.prot m' (by rw [hQ]; exact e)
   generalize hst : c.st = st at hwg hmode
   generalize hsm : c.sm = sm at hwg hmode
   cases hmode with
   | reg h1 _ _ => exact h1.elim
   | last L h1 _ _ _ => exact h1.elim
   | fin h1 _ => exact h1.elim
   | opn h1 h2 h3 =>
     have hv := vc_le c.j (fun k => (c.D k).stage)
     have hV : Vc c.j (fun k => (c.D k).stage) < 2147483648 := by omega
     have hvs := h3 vs rfl
     simp only [pend, Nat.add_zero] at hwg
     have hno : ∀ o, Ag c o → AtW2 P ty Wg N (own0 o) m c.Given c.Fz vs a c.w → ∃ g' w' es, stepG P true a c.w = .go g' w' es ∧ rd (stA Wg) ∈ es := fun o ho hs => by
       obtain ⟨x, y⟩ := hs.2 _ hV hwg
       by_cases e : Vc c.j (fun k => (c.D k).stage) = vs
       · obtain ⟨g', hgo, _⟩ := x e; exact ⟨_, _, _, hgo, by simp⟩
       · obtain ⟨g', hgo, _⟩ := y e; exact ⟨_, _, _, hgo, by simp⟩
     rcases goo_all (fun o w => Rel.refl w) (ag_ex c) h (fun o ho hs o' ho' m' => by
       obtain ⟨g', w', es, hgo, he⟩ := hno o ho hs
       exact no_at hgo (a := stA Wg) (b := false) he) with hs | ⟨k, e, hs⟩
     · by_cases e : Vc c.j (fun k => (c.D k).stage) = vs
       · obtain ⟨g', hgo, _⟩ := ((hs c.o (Agr.refl _ _)).2 _ hV hwg).1 e
         refine main_quiet hN hb hI (tag' := .w3) (Q' := (· = m)) (B' := c.B) (f' := N.fuel + 1) (d' := 1) ha hgo (rd_wr_quiet (stA Wg) rfl).1 (.inr ⟨_, _, rfl, rfl⟩) (hwg.setSt _) (fun hsz => .w3 hm fun o' ho => ?_) (by rw [hd]; rfl) (.reg trivial h2 (by omega)) hpr ⟨m, rfl⟩ (by simp) (.inl (by rw [htag]; simp only [phi]; omega))
         obtain ⟨g'', hgo', hg⟩ := ((hs o' (by rw [hsz] at ho; exact ho)).2 _ hV hwg).1 e
         rw [hgo] at hgo'
         cases hgo'
         exact hg
       · obtain ⟨g', hgo, _⟩ := ((hs c.o (Agr.refl _ _)).2 _ hV hwg).2 e
         refine main_quiet hN hb hI (tag' := .w1) (Q' := (· = m)) (B' := c.B) (f' := N.fuel + N.fuel) (d' := 1) ha hgo (rd_wr_quiet (stA Wg) rfl).2.1 (.inl rfl) hwg (fun hsz => .w1 hm fun o' ho => ?_) (by rw [hd]; rfl) ?_ hpr ⟨m, rfl⟩ (by simp) (.inl (by rw [htag]; simp only [phi]; omega))
         · obtain ⟨g'', hgo', hg⟩ := ((hs o' ho).2 _ hV hwg).2 e
           rw [hgo] at hgo'
           cases hgo'
           exact anch_w1 hN hg
         · have := Mode.opn (tag := .w1) (j := c.j) (sg := fun k => (c.D k).stage) trivial h2 (fun vs hvs => by cases hvs)
           simpa [pend] using this
     · refine main_plain hN hb hI ha (m := k) (Stop := fun o' => AtW2 P ty Wg N (own0 o') m c.Given c.Fz vs) (tag' := .w2 vs) (f' := k) hs (by simp) htag.symm (fun o₁ a' w' hh => ?_) (by omega)
       rw [hQ, hd]
       exact .w2 hm hh
theorem main_w3 (hN : NetOK P ty Wg N) (hb : 0 < base) {c : Cf N} {t : Trace} (hI : Inv P ty Wg N Shun base T0 c t) {a : Goroutine} (ha : c.gs[0]? = some a) (htag : c.tag = .w3) (h : MSit P ty Wg N c.o c.Given c.Fz c.tag c.Q c.f0 c.d0 a c.w) : Onward P ty Wg N Shun base T0 c t (runT P (crowd c.gs c.w c.sl) 0) := by
 generalize hf : c.f0 = f at h
 generalize hd : c.d0 = d at h
 generalize hQ : c.Q = Q at h
 generalize htg : c.tag = tg at h
 rw [htag] at htg
 subst htg
 cases h with
 | @w3 m f g w hm h =>
   have hwg := hI.wg
   have hmode := hI.mode
   rw [htag] at hmode
   have hpr : ∀ m', m' = m → N.I m' c.j (fun i => (c.D i).s) c.cl ∧ N.muM m' ≤ c.B := fun m' e => hI.prot m' (by rw [hQ]; exact e)
   have cases2 : (c.sm = 0 ∧ ∀ tag', isW3 tag' → Mode c.j (fun k => (c.D k).stage) tag' c.st c.sm) ∨ (c.st = 0 ∧ c.sm = 1 ∧ ∀ i, i < c.j → (c.D i).stage = 1) := by
     generalize c.st = st at hmode ⊢
     generalize c.sm = sm at hmode ⊢
     cases hmode with
     | opn h1 _ _ => exact h1.elim
     | reg _ h2 h3 => exact .inl ⟨rfl, fun tag' ht => .reg ht h2 h3⟩
     | last L _ h2 h3 h4 => exact .inl ⟨rfl, fun tag' ht => .last L ht h2 h3 h4⟩
     | sema h1 => exact .inr ⟨rfl, rfl, h1⟩
     | fin h1 _ => exact h1.elim
   have plain : ∀ k, f = k + 1 → (∀ o', Ag c o' → (stepG P true a c.w).goes fun g' w' es => MD Wg (own0 o') c.Given c.Fz c.w w' es ∧ (New (own0 o') c.w w' → MGoo P ty Wg (own0 o') c.Given c.Fz (AtW3 P ty Wg N (own0 o') m c.Given c.Fz) k g' w')) → Onward P ty Wg N Shun base T0 c t (runT P (crowd c.gs c.w c.sl) 0) := fun k e hs => by
     refine main_plain hN hb hI ha (m := k) (Stop := fun o' => AtW3 P ty Wg N (own0 o') m c.Given c.Fz) (tag' := .w3) (f' := k + 1) hs (by simp) htag.symm (fun o₁ a' w' hh => ?_) (by omega)
     rw [hQ, hd]
     exact .w3 hm hh
   rcases cases2 with ⟨hsm, hre⟩ | ⟨hst, hsm, hall⟩
   · have hwg' : ∃ st, WgAt ty Wg c.w st 0 := ⟨c.st, by rw [← hsm]; exact hwg⟩
     rcases goo_alls (fun o w => Rel.refl w) (ag_ex c) h (fun o ho hs o' ho' m' => by
       have hgo := hs.2.2.1 hwg'
       rw [hgo]
       rintro ⟨_, hG⟩
       have hG := hG fun b h1 h2 => by omega
       have := Goo.running (fun a => Rel.refl a) (fun _ _ x => x.1) hG
       cases this) with hs | ⟨k, e, hs⟩
     · have hgo := (hs c.o (Agr.refl _ _) c.w (Rel.refl _)).2.2.1 hwg'
       exact main_quiet hN hb hI (tag' := .blk) (Q' := (· = m)) (B' := c.B) (f' := 0) (d' := 1) (st' := c.st) (sm' := c.sm) ha hgo quietly_nil (.inl rfl) hwg (fun hsz => .blk hm hs) (by rw [hd]; rfl) (hre .blk trivial) hpr ⟨m, rfl⟩ (by simp) (.inr ⟨by rw [htag]; rfl, by omega⟩)
     · exact plain k e hs
   · rw [hst, hsm] at hwg
     rcases goo_all (fun o w => Rel.refl w) (ag_ex c) h (fun o ho hs o' ho' m' => by
       obtain ⟨g', hgo, _⟩ := hs.2.2.2 hwg
       exact no_at hgo (a := smA Wg) (b := false) (by simp [semEvents])) with hs | ⟨k, e, hs⟩
     · obtain ⟨g', hgo, _⟩ := (hs c.o (Agr.refl _ _)).2.2.2 hwg
       refine main_quiet hN hb hI (tag' := .w4) (Q' := (· = m)) (B' := c.B) (f' := N.fuel) (d' := 1) ha hgo (rd_wr_quiet (smA Wg) rfl).2.2.2 (.inr ⟨_, _, rfl, rfl⟩) (hwg.setSm _) (fun hsz => .w4 hm fun o' ho => ?_) (by rw [hd]; rfl) (.fin trivial hall) hpr ⟨m, rfl⟩ (by simp) (.inl (by rw [htag]; simp only [phi]; omega))
       obtain ⟨g'', hgo', hg⟩ := (hs o' (by rw [hsz] at ho; exact ho)).2.2.2 hwg
       rw [hgo] at hgo'
       cases hgo'
       exact hg
     · exact plain k e hs
theorem Mode.fin_of {j : Nat} {sg : Nat → Nat} {tag : MTag} {st sm : Int} (h : Mode j sg tag st sm) (ht : isFin tag) : st = 0 ∧ sm = 0 ∧ ∀ i, i < j → sg i = 1 := by
 cases h with
 | opn h1 _ _ => cases tag <;> first | exact h1.elim | exact ht.elim
 | reg h1 _ _ => cases tag <;> first | exact h1.elim | exact ht.elim
 | last L h1 _ _ _ => cases tag <;> first | exact h1.elim | exact ht.elim
 | sema _ => exact ht.elim
 | fin _ h2 => exact ⟨rfl, rfl, h2⟩
theorem main_w4 (hN : NetOK P ty Wg N) (hb : 0 < base) {c : Cf N} {t : Trace} (hI : Inv P ty Wg N Shun base T0 c t) {a : Goroutine} (ha : c.gs[0]? = some a) (htag : c.tag = .w4) (h : MSit P ty Wg N c.o c.Given c.Fz c.tag c.Q c.f0 c.d0 a c.w) : Onward P ty Wg N Shun base T0 c t (runT P (crowd c.gs c.w c.sl) 0) := by
 obtain ⟨hst, hsm, hall⟩ := hI.mode.fin_of (by rw [htag]; trivial)
 generalize hf : c.f0 = f at h
 generalize hd : c.d0 = d at h
 generalize hQ : c.Q = Q at h
 generalize htg : c.tag = tg at h
 rw [htag] at htg
 subst htg
 cases h with
 | @w4 m f g w hm h =>
   have hwg := hI.wg
   rw [hst, hsm] at hwg
   have hpr : ∀ m', m' = m → N.I m' c.j (fun i => (c.D i).s) c.cl ∧ N.muM m' ≤ c.B := fun m' e => hI.prot m' (by rw [hQ]; exact e)
   rcases goo_all (fun o w => Rel.refl w) (ag_ex c) h (fun o ho hs o' ho' m' => by
     obtain ⟨g', hgo, _⟩ := hs.2 hwg
     exact no_at hgo (a := stA Wg) (b := false) (by simp [rd])) with hs | ⟨k, e, hs⟩
   · obtain ⟨g', hgo, _⟩ := (hs c.o (Agr.refl _ _)).2 hwg
     refine main_quiet hN hb hI (tag' := .kw) (Q' := (· = m)) (B' := c.B) (f' := N.fuel) (d' := 1) ha hgo (rd_wr_quiet (stA Wg) rfl).2.1 (.inl rfl) hwg (fun hsz => .kw hm fun o' ho => ?_) (by rw [hd]; rfl) (.fin trivial hall) hpr ⟨m, rfl⟩ (by simp) (.inl (by rw [htag]; simp only [phi]; omega))
     obtain ⟨g'', hgo', hg⟩ := (hs o' ho).2 hwg
     rw [hgo] at hgo'
     cases hgo'
     exact hg
   · refine main_plain hN hb hI ha (m := k) (Stop := fun o' => AtW4 P ty Wg N (own0 o') m c.Given c.Fz) (tag' := .w4) (f' := k) hs (by simp) htag.symm (fun o₁ a' w' hh => ?_) (by omega)
     rw [hQ, hd]
     exact .w4 hm hh
theorem main_kw (hN : NetOK P ty Wg N) (hb : 0 < base) {c : Cf N} {t : Trace} (hI : Inv P ty Wg N Shun base T0 c t) {a : Goroutine} (ha : c.gs[0]? = some a) (htag : c.tag = .kw) (h : MSit P ty Wg N c.o c.Given c.Fz c.tag c.Q c.f0 c.d0 a c.w) : Onward P ty Wg N Shun base T0 c t (runT P (crowd c.gs c.w c.sl) 0) := by
 obtain ⟨hst, hsm, hall⟩ := hI.mode.fin_of (by rw [htag]; trivial)
 generalize hf : c.f0 = f at h
 generalize hd : c.d0 = d at h
 generalize hQ : c.Q = Q at h
 generalize htg : c.tag = tg at h
 rw [htag] at htg
 subst htg
 cases h with
 | @kw m f g w hm h =>
   have hwg := hI.wg
   rw [hst, hsm] at hwg
   have hpr : ∀ m', m' = m → N.I m' c.j (fun i => (c.D i).s) c.cl ∧ N.muM m' ≤ c.B := fun m' e => hI.prot m' (by rw [hQ]; exact e)
   rcases goo_all (fun o w => Rel.refl w) (ag_ex c) h (fun o ho hs o' ho' m' => by
     obtain ⟨g', hgo, _⟩ := hs.2
     exact no_mk hgo (by simp) (by simp)) with hs | ⟨k, e, hs⟩
   · obtain ⟨g', hgo, _⟩ := (hs c.o (Agr.refl _ _)).2
     refine main_quiet hN hb hI (tag' := .acq) (Q' := (· = m)) (B' := c.B) (f' := N.fuel) (d' := 0) ha hgo (quietly_mk (by simp) (by simp) (by simp)) (.inl rfl) hwg (fun hsz => .acq hm fun o' ho => ?_) (by rw [hd]; rfl) (.fin trivial hall) hpr ⟨m, rfl⟩ (by simp) (.inl (by rw [htag]; simp only [phi]; omega))
     obtain ⟨g'', hgo', hg⟩ := (hs o' ho).2
     rw [hgo] at hgo'
     cases hgo'
     exact hg
   · refine main_plain hN hb hI ha (m := k) (Stop := fun o' => AtKw P ty Wg N (own0 o') m c.Given c.Fz) (tag' := .kw) (f' := k) hs (by simp) htag.symm (fun o₁ a' w' hh => ?_) (by omega)
     rw [hQ, hd]
     exact .kw hm hh
theorem main_run (hN : NetOK P ty Wg N) (hb : 0 < base) {c : Cf N} {t : Trace} (hI : Inv P ty Wg N Shun base T0 c t) {a : Goroutine} (ha : c.gs[0]? = some a) (htag : c.tag = .run) (h : MSit P ty Wg N c.o c.Given c.Fz c.tag c.Q c.f0 c.d0 a c.w) : Onward P ty Wg N Shun base T0 c t (runT P (crowd c.gs c.w c.sl) 0) := by
 generalize hf : c.f0 = f at h
 generalize hd : c.d0 = d at h
 generalize htg : c.tag = tg at h
 rw [htag] at htg
 subst htg
 cases h with
 | @run _ f g w h =>
   have hmode := hI.mode
   rw [htag] at hmode
   have stop_shape : ∀ o, (∃ m, c.Q m ∧ N.Main (own0 o) m c.Given c.Fz a c.w) → ∀ o' (X : Goroutine → World → Prop), ¬ (stepG P true a c.w).goes fun g' w' es => MD Wg (own0 o') c.Given c.Fz c.w w' es ∧ X g' w' := fun o ⟨m, hQ, hM⟩ o' X => by
     have hs := (hN.main _ _ _ _ _ _ hM).2
     cases hact : N.mact m with
     | hire =>
       rw [hact] at hs
       obtain ⟨_, g', hgo, _⟩ := hs
       exact no_mk hgo (by simp) (by simp)
     | send y v =>
       rw [hact] at hs
       exact goes_not_comm hs.1
     | shut y =>
       rw [hact] at hs
       obtain ⟨hcl, _⟩ := hN.mshut _ _ _ _ _ (hI.prot m hQ).1 hact
       obtain ⟨q, hch⟩ := hI.chan y false hcl
       obtain ⟨g', _, hgo, _⟩ := hs.2 q hch
       rw [hgo]
       rintro ⟨hD, _⟩
       exact (evOK_not (hD.evs ⟨.obj y, false, true⟩ (by simp [closeEvents]))).2.2 _ _ rfl
     | wait =>
       rw [hact] at hs
       obtain ⟨g', hgo, _⟩ := hs
       exact no_mk hgo (by simp) (by simp)
   rcases goo_alls (fun o w => Rel.refl w) (ag_ex c) h (fun o ho hs o' ho' m' => stop_shape o hs o' _) with hs | ⟨k, e, hs⟩
   · obtain ⟨m, hQ, hM⟩ := hs c.o (Agr.refl _ _) c.w (Rel.refl _)
     have hms : ∀ o', Ag c o' → MStop P ty Wg N (own0 o') m c.Given c.Fz a c.w := fun o' ho => by
       obtain ⟨m', hQ', hM'⟩ := hs o' ho c.w (Rel.refl _)
       rw [hN.uniq _ _ _ _ _ _ _ _ _ _ _ _ (hI.prot m hQ).1 (hI.prot m' hQ').1 hM hM']
       exact hN.main _ _ _ _ _ _ hM'
     have hpr : ∀ m', m' = m → N.I m' c.j (fun i => (c.D i).s) c.cl ∧ N.muM m' ≤ c.B := fun m' e => hI.prot m' (by rw [e]; exact hQ)
     cases hact : N.mact m with
     | hire =>
       have h0 := (hms c.o (Agr.refl _ _)).2
       rw [hact] at h0
       obtain ⟨_, g', hgo, _⟩ := h0
       refine main_quiet hN hb hI (tag' := .a1) (Q' := (· = m)) (B' := c.B) (f' := N.fuel) (d' := 1) (st' := c.st) (sm' := c.sm) ha hgo (quietly_mk (by simp) (by simp) (by simp)) (.inl rfl) hI.wg (fun hsz => .a1 hact fun o' ho => ?_) (by rw [hd]; rfl) ?_ hpr ⟨m, rfl⟩ (by simp) (.inl (by rw [htag]; simp only [phi]; omega))
       · have h1 := (hms o' ho).2
         rw [hact] at h1
         obtain ⟨_, g'', hgo', hg⟩ := h1
         rw [hgo] at hgo'
         cases hgo'
         exact hg
       · generalize c.st = st at hmode ⊢
         generalize c.sm = sm at hmode ⊢
         cases hmode with
         | reg h1 _ _ => exact h1.elim
         | last L h1 _ _ _ => exact h1.elim
         | fin h1 _ => exact h1.elim
         | opn h1 h2 h3 => exact Mode.opn (tag := .a1) trivial h2 (fun vs hvs => by cases hvs)
     | send y v =>
       refine main_send hN hb hI ha hQ hact htag hd (by omega) fun o' ho w₁ h₁ => ?_
       obtain ⟨m', hQ', hM'⟩ := hs o' ho w₁ h₁
       have h2 := hN.main _ _ _ _ _ _ hM'
       have e := hN.uniq _ _ _ _ _ _ _ _ _ _ _ _ (hI.prot m hQ).1 (hI.prot m' hQ').1 hM hM'
       rw [e]
       exact h2
     | shut y => exact main_shut hN hb hI ha hQ hact htag hd hms
     | wait =>
       have h0 := (hms c.o (Agr.refl _ _)).2
       rw [hact] at h0
       obtain ⟨g', hgo, _⟩ := h0
       have hv := vc_le c.j (fun k => (c.D k).stage)
       refine main_quiet hN hb hI (tag' := .w1) (Q' := (· = m)) (B' := c.B) (f' := N.fuel + N.fuel) (d' := 1) (st' := c.st) (sm' := c.sm) ha hgo (quietly_mk (by simp) (by simp) (by simp)) (.inl rfl) hI.wg (fun hsz => .w1 hact fun o' ho => ?_) (by rw [hd]; rfl) ?_ hpr ⟨m, rfl⟩ (by simp) (.inl (by rw [htag]; simp only [phi]; omega))
       · have h1 := (hms o' ho).2
         rw [hact] at h1
         obtain ⟨g'', hgo', hg⟩ := h1
         rw [hgo] at hgo'
         cases hgo'
         exact anch_w1 hN hg
       · generalize c.st = st at hmode ⊢
         generalize c.sm = sm at hmode ⊢
         cases hmode with
         | reg h1 _ _ => exact h1.elim
         | last L h1 _ _ _ => exact h1.elim
         | fin h1 _ => exact h1.elim
         | opn h1 h2 h3 => exact Mode.opn (tag := .w1) trivial h2 (fun vs hvs => by cases hvs)
   · refine main_plain hN hb hI ha (m := k) (Stop := fun o' g w => ∃ m, c.Q m ∧ N.Main (own0 o') m c.Given c.Fz g w) (tag' := .run) (f' := k + 1) hs (by simp) htag.symm (fun o₁ a' w' hh => ?_) (by omega)
     rw [hd]
     exact .run hh
end
end Go.Proofs.Ytblpmdolclalnaa
