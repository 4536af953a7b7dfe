/- Goroutine 0 at its stops: the group's Add ahead of a go statement, the go statement, Wait. A channel of the net is closed, by goroutine 0 or by a child. A value goes from goroutine 0 to a child, or from a child to a child; a goroutine is parked. -/
import Derived.Test.YtblpmdolclalnaaN05
set_option maxHeartbeats 16000000
set_option linter.unusedSimpArgs false
set_option linter.unusedVariables false
namespace Go.Proofs.Ytblpmdolclalnaa
open Go.Conc
open Go.ConcR (WgAt KK stA smA rd wr mk DC0 deafBehind_cons deafBehind_one ofEvent_mk)
open Go.ConcN (WgLive sumTo upd upd_same upd_ne sumTo_upd sumTo_congr RelBy)
theorem goo_all {P : Program} {main : Bool} {A : (Nat → Nat) → Prop} {own : (Nat → Nat) → Nat → Prop} {R : (Nat → Nat) → World → World → Prop} {D : (Nat → Nat) → World → World → Array Event → Prop} {Stop : (Nat → Nat) → Goroutine → World → Prop} {f : Nat} {g : Goroutine} {w : World}
   (refl : ∀ o w, R o w w) (hex : ∃ o, A o) (h : ∀ o, A o → Goo P main (own o) (R o) (D o) (Stop o) f g w)
   (hno : ∀ o, A o → Stop o g w → ∀ o', A o' → ∀ m, ¬ (stepG P main g w).goes fun g' w' es => D o' w w' es ∧ (New (own o') w w' → Goo P main (own o') (R o') (D o') (Stop o') m g' w')) :
   (∀ o, A o → Stop o g w) ∨ ∃ m, f = m + 1 ∧ ∀ o, A o → (stepG P main g w).goes fun g' w' es => D o w w' es ∧ (New (own o) w w' → Goo P main (own o) (R o) (D o) (Stop o) m g' w') := by
 by_cases hs : ∃ o, A o ∧ Stop o g w
 · obtain ⟨o, ho, hs⟩ := hs
   left
   intro o' ho'
   rcases Goo.now (refl o') (h o' ho') with x | ⟨m, _, x⟩
   · exact x
   · exact absurd x (hno o ho hs o' ho' m)
 · right
   obtain ⟨o, ho⟩ := hex
   rcases Goo.now (refl o) (h o ho) with x | ⟨m, e, _⟩
   · exact absurd ⟨o, ho, x⟩ hs
   · refine ⟨m, e, fun o' ho' => ?_⟩
     rcases Goo.now (refl o') (h o' ho') with x | ⟨m', e', x⟩
     · exact absurd ⟨o', ho', x⟩ hs
     · obtain rfl : m' = m := by omega
       exact x
section
variable {P : Program} {ty : TypeId} {Wg : Nat} {N : Net} {Shun : Nat → Prop} {base T0 : Nat}
theorem evOK_not {said : Bool} {Wr Rd : Cells} {n n' : Nat} {NC : Nat → Prop} {e : Event} (h : EvOK said Wg Wr Rd n n' NC e) : (∀ a w, a.block = Wg → e ≠ ⟨.cell a, w, true⟩) ∧ (∀ m, (∀ a, m ≠ .read a) → (∀ a, m ≠ .write a) → m ≠ .noRoom → e ≠ mk m) ∧ ∀ c x, e ≠ ⟨.obj c, x, true⟩ := by
 rcases h with ⟨a, wr, sy, rfl, hsy, _⟩ | ⟨_, a, s1, s2, _, rfl | rfl⟩ | ⟨_, c, wr, rfl, _⟩ | rfl
 · refine ⟨fun a' w' ha e => ?_, by simp [mk], by simp⟩
   cases e
   exact hsy rfl ha
 · exact ⟨by simp, fun m h1 _ _ => by simp only [mk, ne_eq, Event.mk.injEq, Loc.mark.injEq, not_and]; exact fun e => absurd e.symm (h1 a), by simp⟩
 · exact ⟨by simp, fun m _ h2 _ => by simp only [mk, ne_eq, Event.mk.injEq, Loc.mark.injEq, not_and]; exact fun e => absurd e.symm (h2 a), by simp⟩
 · exact ⟨by simp, by simp [mk], by simp⟩
 · exact ⟨by simp, fun m _ _ h3 => by simp only [mk, ne_eq, Event.mk.injEq, Loc.mark.injEq, not_and]; exact fun e => absurd e.symm h3, by simp⟩
theorem no_mk {own : Nat → Prop} {Given : Cells} {Fz : Nat → Prop} {g g' : Goroutine} {w w' : World} {m : Mark} {X : Goroutine → World → Prop} (hgo : stepG P true g w = .go g' w' #[mk m]) (h1 : ∀ a, m ≠ .read a) (h2 : ∀ a, m ≠ .write a) (h3 : m ≠ .noRoom := by simp) :
   ¬ (stepG P true g w).goes fun g' w' es => MD Wg own Given Fz w w' es ∧ (X g' w') := by
 rw [hgo]
 rintro ⟨h, _⟩
 exact (evOK_not (h.evs (mk m) (by simp))).2.1 m h1 h2 h3 rfl
theorem no_at {own : Nat → Prop} {Given : Cells} {Fz : Nat → Prop} {g g' : Goroutine} {w w' : World} {a : Addr} {b : Bool} {es : Array Event} {X : Goroutine → World → Prop} (hgo : stepG P true g w = .go g' w' es) (he : (⟨.cell a, b, true⟩ : Event) ∈ es) (ha : a.block = Wg := by rfl) :
   ¬ (stepG P true g w).goes fun g' w' es => MD Wg own Given Fz w w' es ∧ (X g' w') := by
 rw [hgo]
 rintro ⟨h, _⟩
 exact (evOK_not (h.evs _ he)).1 a b ha rfl
abbrev Ag (c : Cf N) : (Nat → Nat) → Prop := fun o' => Agr c.w.heap.size c.o o'
theorem ag_ex (c : Cf N) : ∃ o, Ag c o := ⟨c.o, Agr.refl _ _⟩
theorem vc_le (j : Nat) (sg : Nat → Nat) : Vc j sg ≤ j := by
 have := Go.ConcN.sumTo_le (f := fun k => cnt (sg k)) (c := 1) (j := j) fun i _ => by simp only [cnt]; split <;> omega
 simpa [Vc] using this
theorem main_a1 (hN : NetOK P ty Wg N) (hb : 0 < base) {c : Cf N} {t : Trace} (hI : Inv P ty Wg N Shun base T0 c t) {a : Goroutine} (ha : c.gs[0]? = some a) (htag : c.tag = .a1) (h : MSit P ty Wg N c.o c.Given c.Fz c.tag c.Q c.f0 c.d0 a c.w) : Onward P ty Wg N Shun base T0 c t (runT P (crowd c.gs c.w c.sl) 0) := by
 generalize hf : c.f0 = f at h
 generalize hd : c.d0 = d at h
 generalize hQ : c.Q = Q at h
 generalize htg : c.tag = tg at h
 rw [htag] at htg
 subst htg
 cases h with
 | @a1 m f g w hm h =>
   have hwg := hI.wg
   have hmode := hI.mode
   rw [htag] at hmode
   have hI0 := (hI.prot m (by rw [hQ])).1
   have hj := (hN.hire _ _ _ _ hI0 hm).1
   generalize hst : c.st = st at hwg hmode
   generalize hsm : c.sm = sm at hwg hmode
   cases hmode with
   | reg h1 _ _ => exact h1.elim
   | last L h1 _ _ _ => exact h1.elim
   | fin h1 _ => exact h1.elim
   | opn h1 h2 h3 =>
     have hv := vc_le c.j (fun k => (c.D k).stage)
     have hV : Vc c.j (fun k => (c.D k).stage) < 2147483647 := by omega
     simp only [pend, Nat.add_zero] at hwg
     rcases goo_all (fun o w => Rel.refl w) (ag_ex c) h (fun o ho hs o' ho' m' => by
       obtain ⟨g', hgo, _⟩ := hs.2 _ hV hwg
       exact no_at hgo (a := stA Wg) (b := false) (by simp [rd])) with hs | ⟨k, e, hs⟩
     · obtain ⟨g', hgo, _⟩ := (hs c.o (Agr.refl _ _)).2 _ hV hwg
       refine main_quiet hN hb hI (tag' := .ke) (Q' := (· = m)) (B' := c.B) (f' := N.fuel) (d' := 1) ha hgo (rd_wr_quiet (stA Wg) rfl).1 (.inr ⟨_, _, rfl, rfl⟩) (hwg.setSt _) (fun hsz => .ke hm fun o' ho => ?_) (by rw [hd]; rfl) ?_ (fun m' e => hI.prot m' (by rw [hQ]; exact e)) ⟨m, rfl⟩ (by simp) (.inl (by rw [htag]; simp only [phi]; omega))
       · obtain ⟨g'', hgo', hg⟩ := (hs o' (by rw [hsz] at ho; exact ho)).2 _ hV hwg
         rw [hgo] at hgo'
         cases hgo'
         exact hg
       · have := Mode.opn (tag := .ke) (j := c.j) (sg := fun k => (c.D k).stage) trivial h2 (fun vs hvs => by cases hvs)
         simp only [pend] at this
         simpa using this
     · refine main_plain hN hb hI ha (m := k) (Stop := fun o' => AtA1 P ty Wg N (own0 o') m c.Given c.Fz) (tag' := .a1) (f' := k) hs (by simp) htag.symm (fun o₁ a' w' hh => ?_) (by omega)
       rw [hQ, hd]
       exact .a1 hm hh
theorem main_ke (hN : NetOK P ty Wg N) (hb : 0 < base) {c : Cf N} {t : Trace} (hI : Inv P ty Wg N Shun base T0 c t) {a : Goroutine} (ha : c.gs[0]? = some a) (htag : c.tag = .ke) (h : MSit P ty Wg N c.o c.Given c.Fz c.tag c.Q c.f0 c.d0 a c.w) : Onward P ty Wg N Shun base T0 c t (runT P (crowd c.gs c.w c.sl) 0) := by
 generalize hf : c.f0 = f at h
 generalize hd : c.d0 = d at h
 generalize hQ : c.Q = Q at h
 generalize htg : c.tag = tg at h
 rw [htag] at htg
 subst htg
 cases h with
 | @ke m f g w hm h =>
   have hmode := hI.mode
   rw [htag] at hmode
   rcases goo_all (fun o w => Rel.refl w) (ag_ex c) h (fun o ho hs o' ho' m' => by
     obtain ⟨g', hgo, _⟩ := hs.2
     exact no_mk hgo (by simp) (by simp)) with hs | ⟨k, e, hs⟩
   · obtain ⟨g', hgo, _⟩ := (hs c.o (Agr.refl _ _)).2
     refine main_quiet hN hb hI (tag' := .go) (Q' := (· = m)) (B' := c.B) (f' := N.fuel) (d' := 0) (st' := c.st) (sm' := c.sm) ha hgo (quietly_mk (by simp) (by simp) (by simp)) (.inl rfl) hI.wg (fun hsz => .go hm fun o' ho => ?_) (by rw [hd]; rfl) ?_ (fun m' e => hI.prot m' (by rw [hQ]; exact e)) ⟨m, rfl⟩ (by simp) (.inl (by rw [htag]; simp only [phi]; omega))
     · obtain ⟨g'', hgo', hg⟩ := (hs o' ho).2
       rw [hgo] at hgo'
       cases hgo'
       exact hg
     · generalize c.st = st at hmode ⊢
       generalize c.sm = sm at hmode ⊢
       cases hmode with
       | reg h1 _ _ => exact h1.elim
       | last L h1 _ _ _ => exact h1.elim
       | fin h1 _ => exact h1.elim
       | opn h1 h2 h3 => exact Mode.opn (tag := .go) trivial h2 (fun vs hvs => by cases hvs)
   · refine main_plain hN hb hI ha (m := k) (Stop := fun o' => AtKe P ty Wg N (own0 o') m c.Given c.Fz) (tag' := .ke) (f' := k) hs (by simp) htag.symm (fun o₁ a' w' hh => ?_) (by omega)
     rw [hQ, hd]
     exact .ke hm hh
theorem goes_not_spawn {g g' ch : Goroutine} {w w' : World} {es : Array Event} {K : Goroutine → World → Array Event → Prop} (h : stepG P true g w = .spawn g' ch w' es) : ¬ (stepG P true g w).goes K := by rw [h]; exact id
theorem goes_not_comm {main : Bool} {g g' : Goroutine} {w w' : World} {cs : Array CommCase} {b : Bool} {sh : CommShape} {es : Array Event} {K : Goroutine → World → Array Event → Prop} (h : stepG P main g w = .comm g' cs b sh w' es) : ¬ (stepG P main g w).goes K := by rw [h]; exact id
theorem main_go (hN : NetOK P ty Wg N) (hb : 0 < base) {c : Cf N} {t : Trace} (hI : Inv P ty Wg N Shun base T0 c t) {a : Goroutine} (ha : c.gs[0]? = some a) (htag : c.tag = .go) (h : MSit P ty Wg N c.o c.Given c.Fz c.tag c.Q c.f0 c.d0 a c.w) : Onward P ty Wg N Shun base T0 c t (runT P (crowd c.gs c.w c.sl) 0) := by
 have hszg : 0 < c.gs.size := by rw [hI.size]; omega
 generalize hf : c.f0 = f at h
 generalize hd : c.d0 = d at h
 generalize hQ : c.Q = Q at h
 generalize htg : c.tag = tg at h
 rw [htag] at htg
 subst htg
 cases h with
 | @go m f g w hm h =>
   rcases goo_all (fun o w => Rel.refl w) (ag_ex c) h (fun o ho hs o' ho' m' => by
     obtain ⟨g', ch, hgo, _⟩ := hs.2
     exact goes_not_spawn hgo) with hs | ⟨k, e, hs⟩
   · obtain ⟨g', ch, hgo, hgive, hrd, hchs, hkid, _⟩ := (hs c.o (Agr.refl _ _)).2
     have hI0 := (hI.prot m (by rw [hQ])).1
     obtain ⟨hj, hmu, hnd, hsucc⟩ := hN.hire _ _ _ _ hI0 hm
     have hrun := runT_crowd_spawn (P := P) (sl := c.sl) ha (by simpa using hgo)
     have hG := hI.gh
     have hmode := hI.mode
     rw [htag] at hmode
     have hH : Hand c.o c.w.heap.size c.Given c.Fz (N.hireGive m) (N.hireRd m) (· ∈ N.hireChs m) :=
       ⟨hgive, hrd, fun y hy => ⟨(Array.getElem?_eq_some_iff.1 (hchs y hy).2.2.2).1, (hchs y hy).1, (hchs y hy).2.1, (hchs y hy).2.2.1⟩⟩
     obtain ⟨u, hu⟩ : ∃ u : Array MemOp, u = #[{ g := 0, fn := a.frame.fn, pos := a.frame.place, act := .go (base + c.j) }, { g := base + c.j, fn := ch.frame.fn, pos := a.frame.place, act := .start }] := ⟨_, rfl⟩
     have hops : ((MemOp.ofEvents 0 a.frame.fn a.frame.place #[]).push { g := 0, fn := a.frame.fn, pos := a.frame.place, act := .go c.gs.size }).push { g := c.gs.size, fn := ch.frame.fn, pos := a.frame.place, act := .start } = u := by
       rw [hu, hI.size]; simp [MemOp.ofEvents]
     rw [hops] at hrun
     have hu0 : ∀ op ∈ u, op.act.touch? = none ∧ (∀ a, op.act ≠ .mark (.release a)) ∧ (op.act ≠ .mark .disable ∧ op.act ≠ .mark .enable) ∧ (op.g = 0 ∨ op.g = base + c.j) := fun op hop => by
       rw [hu] at hop
       simp only [List.mem_toArray, List.mem_cons, List.not_mem_nil, or_false] at hop
       rcases hop with rfl | rfl <;> simp [MemAct.touch?]
     have hdf : ∀ k, Deaf (t ++ u) k = Deaf t k := fun k => Deaf_flat (fun op hop => (hu0 op hop).2.2.1) k
     have hD0 : Deaf t 0 = 0 := by rw [hI.deaf0, hd]
     have hDj : Deaf t (base + c.j) = 0 := hI.above _ (Nat.le_refl _)
     have hkn : ∀ i, Knows t 0 i → Knows (t ++ u) (base + c.j) i := fun i hi => by rw [hu]; exact Go.ConcN.fork_knows ⟨rfl, rfl⟩ ⟨rfl, rfl⟩ hD0 hDj hi
     have hDs : (fun k => (upd c.D c.j (⟨N.hireS m, ⟨N.hireGive m, N.hireRd m⟩, 8, N.fuel + 2, 0⟩ : KDt N) k).s) = upd (fun k => (c.D k).s) c.j (N.hireS m) := by
       funext k; unfold upd; split <;> rfl
     have hDg : (fun k => (upd c.D c.j (⟨N.hireS m, ⟨N.hireGive m, N.hireRd m⟩, 8, N.fuel + 2, 0⟩ : KDt N) k).kg) = upd (fun k => (c.D k).kg) c.j ⟨N.hireGive m, N.hireRd m⟩ := by
       funext k; unfold upd; split <;> rfl
     have hold : ∀ k, k < c.j → upd c.D c.j (⟨N.hireS m, ⟨N.hireGive m, N.hireRd m⟩, 8, N.fuel + 2, 0⟩ : KDt N) k = c.D k := fun k hk => upd_ne _ _ (by omega)
     have hcase : ∀ k, k < c.j + 1 → k < c.j ∨ k = c.j := fun k hk => by omega
     have hsum : ∀ φ : KDt N → Nat, (sumTo (c.j + 1) fun k => φ (upd c.D c.j (⟨N.hireS m, ⟨N.hireGive m, N.hireRd m⟩, 8, N.fuel + 2, 0⟩ : KDt N) k)) = (sumTo c.j fun k => φ (c.D k)) + φ ⟨N.hireS m, ⟨N.hireGive m, N.hireRd m⟩, 8, N.fuel + 2, 0⟩ := fun φ => by
       rw [sumTo, upd_same, sumTo_congr (g := fun k => φ (c.D k)) fun k hk => by rw [hold k hk]]
     refine ⟨{ c with gs := (c.gs.setIfInBounds 0 g').push ch, Given := (fun b x => c.Given b x ∨ N.hireGive m b x ∨ b ∈ N.hireChs m), Fz := (fun b => c.Fz b ∨ N.hireRd m b), cl := (fun x => if x ∈ N.hireChs m then some false else c.cl x), j := c.j + 1, D := upd c.D c.j ⟨N.hireS m, ⟨N.hireGive m, N.hireRd m⟩, 8, N.fuel + 2, 0⟩, tag := .run, Q := N.succ m, B := N.muM m - 1 - N.muS (N.hireS m), f0 := N.fuel + 1, d0 := 0 }, by rw [hrun], ?_, ?_⟩
     · show (_ ∨ _)
       left
       have e1 := hsum (kmu N)
       have hB := (hI.prot m (by rw [hQ])).2
       simp only [mu1, phi, htag]
       simp only [kmu] at e1 ⊢
       omega
     · rw [hrun]
       refine ⟨by simp [hI.size]; omega, ⟨g', ?_, ?_⟩, fun k hk => ?_, fun k y hk0 hkb hy => ?_, fun k hk => ?_, fun k hk => ?_, ?_, ?_, ?_, fun x b hx => ?_, hI.wg, ?_, fun k hk hsg => ?_, fun m' hm' => ?_, hN.some m (by rw [hm]; simp), ?_, fun k hk h8 h0 y hy => ?_,
         fun k k' y v hk hk' h8 h0 h8' h0' hy => ?_, fun htg => by simp at htg⟩
       · show ((c.gs.setIfInBounds 0 g').push ch)[0]? = some g'
         rw [Array.getElem?_push_lt (by simpa using hszg)]
         simp
       · refine .run fun o' ho => ?_
         obtain ⟨g'', ch', hgo', _, _, _, _, hr⟩ := (hs o' ho).2
         rw [hgo] at hgo'
         cases hgo'
         exact hr
       · show ∃ g, ((c.gs.setIfInBounds 0 g').push ch)[base + k]? = some g ∧ _
         rcases hcase k hk with hlt | rfl
         · obtain ⟨y, hy, hsy⟩ := hI.kids k hlt
           refine ⟨y, ?_, ?_⟩
           · rw [Array.getElem?_push_lt (by simp; rw [hI.size]; omega), ← Array.getElem?_eq_getElem, Array.getElem?_setIfInBounds_ne (by omega)]
             exact hy
           · simp only [hold k hlt]; exact hsy
         · refine ⟨ch, ?_, ?_⟩
           · rw [show base + c.j = (c.gs.setIfInBounds 0 g').size by simp [hI.size], Array.getElem?_push_size]
           · simp only [upd_same]
             exact .run fun o' ho => hkid _
       · have hy' : c.gs[k]? = some y := by
           have hy2 : ((c.gs.setIfInBounds 0 g').push ch)[k]? = some y := hy
           rw [Array.getElem?_push_lt (by simp; rw [hI.size]; omega), ← Array.getElem?_eq_getElem, Array.getElem?_setIfInBounds_ne (by omega)] at hy2
           exact hy2
         rw [hdf]
         exact hI.old k y hk0 hkb hy'
       · rw [hdf]; exact hI.above k (by have : base + (c.j + 1) ≤ k := hk; omega)
       · rw [hdf]
         rcases hcase k hk with hlt | rfl
         · simp only [hold k hlt]; exact hI.deafK k hlt
         · simp only [upd_same]; exact hDj
       · rw [hdf]; exact hD0
       · rw [hDg]
         have := hG.spawn hH
         refine ⟨this.wg, this.shun, this.fz, fun x hx => this.ch x ?_, this.given, fun i hi b x hx => ?_, this.rd, this.apart, this.mine⟩
         · by_cases hxc : x ∈ N.hireChs m
           · exact .inr hxc
           · simp only [hxc, if_false] at hx; exact .inl hx
         · have h4 := this.got i hi b x hx
           refine ⟨h4.1, h4.2.1, h4.2.2.1, fun hh => h4.2.2.2 ?_⟩
           by_cases hxc : b ∈ N.hireChs m
           · exact .inr hxc
           · simp only [hxc, if_false] at hh; exact .inl hh
       · rw [hDg]
         exact hI.tr.spawn hH (fun op hop => (hu0 op hop).1) (fun op hop => (hu0 op hop).2.1) hkn hG.mine
       · by_cases hxc : x ∈ N.hireChs m
         · simp only [hxc, if_true, Option.some.injEq] at hx
           subst hx
           exact ⟨0, (hchs x hxc).2.2.2⟩
         · simp only [hxc, if_false] at hx
           exact hI.chan x b hx
       · generalize c.st = st at hmode ⊢
         generalize c.sm = sm at hmode ⊢
         cases hmode with
         | reg h1 _ _ => exact h1.elim
         | last L h1 _ _ _ => exact h1.elim
         | fin h1 _ => exact h1.elim
         | opn h1 h2 h3 =>
           have eV : Vc (c.j + 1) (fun k => (upd c.D c.j (⟨N.hireS m, ⟨N.hireGive m, N.hireRd m⟩, 8, N.fuel + 2, 0⟩ : KDt N) k).stage) = Vc c.j (fun k => (c.D k).stage) + 1 := by
             have := hsum fun y => cnt y.stage
             simpa [Vc, cnt] using this
           have := Mode.opn (tag := .run) (j := c.j + 1) (sg := fun k => (upd c.D c.j (⟨N.hireS m, ⟨N.hireGive m, N.hireRd m⟩, 8, N.fuel + 2, 0⟩ : KDt N) k).stage) trivial (fun k hk => by
             rcases hcase k hk with hlt | rfl
             · simp only [hold k hlt]; exact h2 k hlt
             · simp [upd_same]) (fun vs hvs => by cases hvs)
           rw [eV] at this
           exact this
       · rcases hcase k hk with hlt | rfl
         · simp only [hold k hlt] at hsg
           exact (hI.rel k hlt hsg).app fun op hop e => by rcases (hu0 op hop).2.2.2 with x | x <;> omega
         · simp only [upd_same] at hsg; omega
       · rw [hDs]
         have := hsucc m' hm'
         refine ⟨this.1, ?_⟩
         show N.muM m' ≤ N.muM m - 1 - N.muS (N.hireS m)
         omega
       · have := hI.t0; simp; omega
       · rcases hcase k hk with hlt | rfl
         · simp only [hold k hlt] at h8 h0 hy
           have := hI.pOpen k hlt h8 h0 y hy
           show (if y ∈ N.hireChs m then some false else c.cl y) = _
           split
           · rfl
           · exact this
         · simp only [upd_same] at h0; omega
       · rcases hcase k hk with hlt | rfl
         · rcases hcase k' hk' with hlt' | rfl
           · simp only [hold k hlt] at h8 h0 hy
             simp only [hold k' hlt'] at h8' h0' ⊢
             exact hI.pKK k k' y v hlt hlt' h8 h0 h8' h0' hy
           · simp only [upd_same] at h0'; omega
         · simp only [upd_same] at h0; omega
   · refine main_plain hN hb hI ha (m := k) (Stop := fun o' => AtGo P ty Wg N (own0 o') m c.Given c.Fz) (tag' := .go) (f' := k) hs (by simp) htag.symm (fun o₁ a' w' hh => ?_) (by omega)
     rw [hQ, hd]
     exact .go hm hh
end
section
variable {P : Program} {ty : TypeId} {Wg : Nat} {N : Net} {Shun : Nat → Prop} {base T0 : Nat}
open Classical in
noncomputable def wakeD (D : Nat → KDt N) (y : Nat) : Nat → KDt N := fun k => if (D k).stage = 8 ∧ (D k).fuel = 0 ∧ N.act (D k).s = .recv y then { D k with fuel := 1 } else D k
theorem wakeD_s (D : Nat → KDt N) (y k : Nat) : (wakeD D y k).s = (D k).s := by unfold wakeD; split <;> rfl
theorem wakeD_kg (D : Nat → KDt N) (y k : Nat) : (wakeD D y k).kg = (D k).kg := by unfold wakeD; split <;> rfl
theorem wakeD_stage (D : Nat → KDt N) (y k : Nat) : (wakeD D y k).stage = (D k).stage := by unfold wakeD; split <;> rfl
theorem wakeD_deaf (D : Nat → KDt N) (y k : Nat) : (wakeD D y k).deaf = (D k).deaf := by unfold wakeD; split <;> rfl
theorem wakeD_pk {D : Nat → KDt N} {y k : Nat} (h8 : (wakeD D y k).stage = 8) (h0 : (wakeD D y k).fuel = 0) : (D k).stage = 8 ∧ (D k).fuel = 0 ∧ N.act (D k).s ≠ .recv y := by
 unfold wakeD at h8 h0
 split at h0
 · simp at h0
 · rename_i hc
   rw [if_neg hc] at h8
   exact ⟨h8, h0, fun e => hc ⟨h8, h0, e⟩⟩
theorem KStop.tries {own : Nat → Prop} {s : N.S} {Got : Cells} {Rd : Nat → Prop} {g : Goroutine} {w : World} (h : KStop P ty Wg N own s Got Rd g w) (cs : Array CommCase) (sh : CommShape) : KStop P ty Wg N own s Got Rd { parked (bare g) cs sh with status := .running } w := by
 have e : ∀ w, stepG P false { parked (bare g) cs sh with status := .running } w = stepG P false g w := fun w => stepG_same rfl rfl rfl w
 have eb : bare { parked (bare g) cs sh with status := .running } = bare g := rfl
 refine ⟨rfl, ?_⟩
 have h2 := h.2
 split
 · rename_i c hc
   rw [hc] at h2
   rw [e, eb]; exact h2
 · rename_i c v hc
   rw [hc] at h2
   rw [e, eb]; exact h2
 · rename_i c hc
   rw [hc] at h2
   refine ⟨?_, fun k hk => by rw [e]; exact h2.2 k hk⟩
   have h21 := h2.1
   unfold mayWake at h21 ⊢
   exact h21
 · rename_i hc
   rw [hc] at h2
   rw [e]; exact h2
theorem kid_wake (hN : NetOK P ty Wg N) {c : Cf N} {t : Trace} (hI : Inv P ty Wg N Shun base T0 c t) {k y : Nat} (hk : k < c.j) {w' : World} {x x' : Goroutine} (hmw : mayWake P x = true) (hx' : x'.status = .running)
   (hKR : KR ty Wg (ownK c.o k) (c.D k).kg.Got (c.D k).kg.Rd c.w w') (hns : ∀ v, N.act (c.D k).s ≠ .send y v) {q : Nat} (hy : w'.heap[y]? = some (.chan 0 #[] true q q false)) (hoth : ∀ z, z ≠ y → w'.heap[z]? = c.w.heap[z]?) :
   ∃ g, c.gs[base + k]? = some g ∧ KSit P ty Wg N c.o k (wakeD c.D y k).s (wakeD c.D y k).kg (wakeD c.D y k).stage (wakeD c.D y k).fuel (wakeD c.D y k).deaf (woken P x x' w' g) w' := by
 obtain ⟨g, hg, hs⟩ := hI.kids k hk
 refine ⟨g, hg, ?_⟩
 obtain ⟨m₀, hm₀⟩ := hI.ex
 have hs' := hs.rely hKR (Agr.refl _ _)
 by_cases hp : (c.D k).stage = 8 ∧ (c.D k).fuel = 0 ∧ N.act (c.D k).s = .recv y
 · have e : wakeD c.D y k = { c.D k with fuel := 1 } := by unfold wakeD; rw [if_pos hp]
   rw [e]
   obtain ⟨h8, h0, ha⟩ := hp
   simp only
   generalize hst : (c.D k).stage = st at hs' h8
   generalize hfu : (c.D k).fuel = fu at hs' h0
   generalize hde : (c.D k).deaf = de at hs'
   subst h8 h0
   cases hs' with
   | @pkR g' _ c' ha' h =>
     rw [ha] at ha'
     cases ha'
     have ew : woken P x x' w' (parked (bare g') #[rcase y (N.zero (c.D k).s)] (N.shape (c.D k).s)) = { parked (bare g') #[rcase y (N.zero (c.D k).s)] (N.shape (c.D k).s) with status := .running } := by
       unfold woken
       rw [if_pos (by simp [hmw, hx'])]
       exact again_recv_closed hy
     rw [ew]
     exact .wok fun o' ho w₁ h₁ => (h o' ho w₁ h₁).tries _ _
   | pkS ha' _ => rw [ha] at ha'; cases ha'
 · have e : wakeD c.D y k = c.D k := by unfold wakeD; rw [if_neg hp]
   rw [e, hs'.woken hN x x' fun h8 h0 z hz => ?_]
   · exact hs'
   · have hopen : c.cl z = some false := by
       rcases hz with hz | ⟨v, hz⟩
       · exact hI.pOpen k hk h8 h0 z hz
       · exact ((hN.chans _ _ _ _ (hI.prot m₀ hm₀).1).2 k hk).2 z v hz
     have hzy : z ≠ y := fun e => by
       subst e
       rcases hz with hz | ⟨v, hz⟩
       · exact hp ⟨h8, h0, hz⟩
       · exact hns v hz
     rw [hoth z hzy]
     exact hI.chan z false hopen
theorem close_quiet {c g : Nat} {fn : FuncId} {pos : String} {NC : Nat → Prop} (hc : ¬ NC c) : (∀ op ∈ MemOp.ofEvents g fn pos (closeEvents c), (∀ b, op.act.touch? = some b → Sh Wg NC b.loc ∧ b.kind = .atomic) ∧ (∀ a, op.act ≠ .mark (.release a)) ∧ op.act ≠ .mark .disable ∧ op.act ≠ .mark .enable ∧ op.g = g) := by
 intro op hop
 obtain ⟨e, he, rfl⟩ := Go.Conc.mem_ofEvents hop
 simp only [closeEvents, List.mem_toArray, List.mem_cons, List.not_mem_nil, or_false] at he
 rcases he with rfl | rfl
 · refine ⟨fun b hb => ?_, by simp [MemAct.ofEvent], by simp [MemAct.ofEvent], by simp [MemAct.ofEvent], rfl⟩
   simp only [MemAct.ofEvent, MemAct.touch?, Option.some.injEq] at hb
   subst hb
   exact ⟨.inr ⟨c, rfl, hc⟩, rfl⟩
 · refine ⟨fun b hb => ?_, by simp [MemAct.ofEvent], by simp [MemAct.ofEvent], by simp [MemAct.ofEvent], rfl⟩
   simp [MemAct.ofEvent, MemAct.touch?] at hb
theorem setChan_ne {w : World} {c b q r : Nat} {x : Bool} (h : b ≠ c) : (w.setChan c 0 #[] x q r false).heap[b]? = w.heap[b]? := Array.getElem?_setIfInBounds_ne (fun e => h e.symm)
theorem setChan_self {w : World} {c q r : Nat} {x : Bool} {ob : Obj} (h : w.heap[c]? = some ob) : (w.setChan c 0 #[] x q r false).heap[c]? = some (.chan 0 #[] x q r false) := by
 have hlt := (Array.getElem?_eq_some_iff.1 h).1
 show (w.heap.setIfInBounds c _)[c]? = _
 simp [hlt]
theorem rel_chan {Keep : Cells} {w : World} {c q r q' r' : Nat} {x x' : Bool} (h : w.heap[c]? = some (.chan 0 #[] x q r false)) (hK : ∀ o, ¬ Keep c o) (hc : c ≠ Wg) : Rel ty Wg Keep w (w.setChan c 0 #[] x' q' r' false) := by
 refine Rel.turn ⟨_, h, fun _ _ _ e => by cases e⟩ hK fun ⟨st, sm, hl⟩ => ⟨st, sm, hl.of_block ?_⟩
 exact Array.getElem?_setIfInBounds_ne hc
theorem keep_chan {c : Cf N} {t : Trace} (hI : Inv P ty Wg N Shun base T0 c t) {y : Nat} (hy : c.cl y ≠ none) : (∀ k, k < c.j → ∀ x, ¬ keepK (ownK c.o k) (c.D k).kg.Got (c.D k).kg.Rd y x) ∧ ∀ x, ¬ keepM (own0 c.o) c.Given y x := by
 have hG := hI.gh
 have hc := hG.ch y hy
 refine ⟨fun k hk x hx => ?_, fun x hx => hx.2 (hc.2.2.2 x)⟩
 rcases hx with e | e | e
 · unfold ownK at e; omega
 · exact (hG.got k hk _ _ e).2.2.2 hy
 · exact (hG.fz _ (hG.rd k hk _ e)).2.2 x (hc.2.2.2 x)
theorem main_shut (hN : NetOK P ty Wg N) (hb : 0 < base) {c : Cf N} {t : Trace} (hI : Inv P ty Wg N Shun base T0 c t) {a : Goroutine} (ha : c.gs[0]? = some a) {m : N.M} {y : Nat} (hQ : c.Q m) (hm : N.mact m = .shut y) (htag : c.tag = .run) (hd : c.d0 = 0)
   (h : ∀ o', Ag c o' → MStop P ty Wg N (own0 o') m c.Given c.Fz a c.w) : Onward P ty Wg N Shun base T0 c t (runT P (crowd c.gs c.w c.sl) 0) := by
 obtain ⟨hcl, hns, hpos, hsucc⟩ := hN.mshut _ _ _ _ _ (hI.prot m hQ).1 hm
 obtain ⟨q, hch⟩ := hI.chan y false hcl
 have hG := hI.gh
 have hcy := hG.ch y (by rw [hcl]; simp)
 have h0 := (h c.o (Agr.refl _ _)).2
 rw [hm] at h0
 obtain ⟨hmw, h0⟩ := h0
 obtain ⟨g', hgr, hgo, _⟩ := h0 q hch
 have hrun := runT_crowd_go (P := P) (sl := c.sl) ha (by simpa using hgo)
 have hsz0 : 0 < c.gs.size := by rw [hI.size]; omega
 have hkeep := keep_chan hI (y := y) (by rw [hcl]; simp)
 have hny : ¬ Nc (c.w.setChan y 0 #[] true q q false) y := fun hn => hn ⟨_, _, _, _, _, _, setChan_self hch⟩
 have hchs : SameCh c.w (c.w.setChan y 0 #[] true q q false) := SameCh.put hch ⟨fun _ => ⟨_, _, _, _, _, _, rfl⟩, fun _ => ⟨_, _, _, _, _, _, rfl⟩⟩
 have hcq := fun op hop => close_quiet (Wg := Wg) hny (c := y) (g := 0) (fn := a.frame.fn) (pos := a.frame.place) op hop
 have hothers : ∀ op ∈ MemOp.ofEvents 0 a.frame.fn a.frame.place (closeEvents y), op.g = 0 := fun op hop => (hcq op hop).2.2.2.2
 have hsz : (c.w.setChan y 0 #[] true q q false).heap.size = c.w.heap.size := by show (c.w.heap.setIfInBounds y _).size = _; simp
 have hdf : ∀ k, Deaf (t ++ MemOp.ofEvents 0 a.frame.fn a.frame.place (closeEvents y)) k = Deaf t k := fun k => Deaf_flat (fun op hop => ⟨(hcq op hop).2.2.1, (hcq op hop).2.2.2.1⟩) k
 have hDs : (fun k => (wakeD c.D y k).s) = fun k => (c.D k).s := funext fun k => wakeD_s _ _ _
 have hDg : (fun k => (wakeD c.D y k).kg) = fun k => (c.D k).kg := funext fun k => wakeD_kg _ _ _
 have hDt : (fun k => (wakeD c.D y k).stage) = fun k => (c.D k).stage := funext fun k => wakeD_stage _ _ _
 refine ⟨{ c with gs := (c.gs.map (woken P a g' (c.w.setChan y 0 #[] true q q false))).setIfInBounds 0 g', w := c.w.setChan y 0 #[] true q q false, cl := upd c.cl y (some true), D := wakeD c.D y, tag := .run, Q := N.succ m, B := N.muM m - 1, f0 := N.fuel + 1, d0 := 0 }, by rw [hrun], ?_, ?_⟩
 · show (_ ∨ _)
   left
   have hB := (hI.prot m hQ).2
   simp only [mu1, phi, htag, kmu, wakeD_s, wakeD_stage]
   omega
 · rw [hrun]
   refine ⟨by simp [hI.size], ⟨_, get_map_set_same _ _ _ _ hsz0, .run fun o' ho => ?_⟩, fun k hk => ?_, fun k z hk0 hkb hz => ?_, fun k hk => ?_, fun k hk => ?_, ?_, ?_, ?_, fun x b hx => ?_, ?_, ?_, fun k hk hsg => ?_, fun m' hm' => ?_, hN.some m (by rw [hm]; simp), ?_, fun k hk h8 h0 z hz => ?_,
     fun k k' z v hk hk' h8 h0 h8' h0' hz => ?_, fun htg => by simp at htg⟩
   · have h1 := (h o' (by rw [hsz] at ho; exact ho)).2
     rw [hm] at h1
     obtain ⟨g'', _, hgo', hr⟩ := h1.2 q hch
     rw [hgo] at hgo'
     cases hgo'
     exact hr
   · obtain ⟨z, hz, hs⟩ := kid_wake hN hI hk (w' := c.w.setChan y 0 #[] true q q false) hmw hgr (rel_chan hch (hkeep.1 k hk) hcy.2.2.1) (fun v => hns k v hk) (setChan_self hch) (fun z hz => setChan_ne hz)
     exact ⟨_, by rw [get_map_set _ _ _ _ _ (by omega), hz]; rfl, hs⟩
   · rw [get_map_set _ _ _ _ _ (by omega)] at hz
     obtain ⟨z', hz', rfl⟩ := Option.map_eq_some_iff.1 hz
     have hq := hI.old k z' hk0 hkb hz'
     rw [woken_quitsD hq, hdf]
     exact hq
   · rw [hdf]; exact hI.above k hk
   · rw [hdf, wakeD_deaf]; exact hI.deafK k hk
   · rw [hdf, hI.deaf0, hd]
   · rw [hDg]
     show Gh Wg Shun c.o (c.w.setChan y 0 #[] true q q false).heap.size c.Given c.Fz (fun x => upd c.cl y (some true) x ≠ none) c.j _
     rw [hsz]
     have hiff : ∀ x, (upd c.cl y (some true) x ≠ none) → c.cl x ≠ none := fun x hx => by
       by_cases hxy : x = y
       · subst hxy; rw [hcl]; simp
       · rw [upd_ne _ _ hxy] at hx; exact hx
     exact ⟨hG.wg, hG.shun, hG.fz, fun x hx => hG.ch x (hiff x hx), hG.given, fun i hi b x hx => ⟨(hG.got i hi b x hx).1, (hG.got i hi b x hx).2.1, (hG.got i hi b x hx).2.2.1, fun hh => (hG.got i hi b x hx).2.2.2 (hiff b hh)⟩, hG.rd, hG.apart, hG.mine⟩
   · rw [hDg]
     show Tr Wg Shun c.o (c.w.setChan y 0 #[] true q q false).heap.size _ _ _ _ _ _ _ _
     rw [hsz]
     exact hI.tr.appM hG (Nat.le_refl _) hchs (fun _ hc => hsz ▸ Nc.lt hc) hothers (fun op hop b hbb => .inr (.inl ⟨((hcq op hop).1 b hbb).1, by rw [((hcq op hop).1 b hbb).2]; simp⟩)) (fun op hop => (hcq op hop).2.1)
   · show ∃ k, (c.w.setChan y 0 #[] true q q false).heap[x]? = _
     by_cases hxy : x = y
     · subst hxy
       have hx' : upd c.cl x (some true) x = some b := hx
       rw [upd_same] at hx'
       obtain rfl := Option.some.inj hx'
       exact ⟨q, setChan_self hch⟩
     · have hx' : upd c.cl y (some true) x = some b := hx
       rw [upd_ne _ _ hxy] at hx'
       rw [setChan_ne hxy]
       exact hI.chan x b hx'
   · exact hI.wg.of_block (setChan_ne hcy.2.2.1.symm)
   · rw [hDt]
     have := hI.mode
     rw [htag] at this
     exact this
   · rw [wakeD_stage] at hsg
     exact (hI.rel k hk hsg).app fun op hop e => by rw [hothers op hop] at e; omega
   · rw [hDs]
     have := hsucc m' hm'
     refine ⟨this.1, ?_⟩
     show N.muM m' ≤ N.muM m - 1
     omega
   · have := hI.t0; simp; omega
   · obtain ⟨h8', h0', hne⟩ := wakeD_pk h8 h0
     rw [wakeD_s] at hz
     have hzy : z ≠ y := fun e => hne (e ▸ hz)
     show upd c.cl y (some true) z = _
     rw [upd_ne _ _ hzy]
     exact hI.pOpen k hk h8' h0' z hz
   · obtain ⟨a1, a2, _⟩ := wakeD_pk h8 h0
     obtain ⟨b1, b2, _⟩ := wakeD_pk h8' h0'
     rw [wakeD_s] at hz ⊢
     exact hI.pKK k k' z v hk hk' a1 a2 b1 b2 hz
theorem kid_shut (hN : NetOK P ty Wg N) (hb : 0 < base) {c : Cf N} {t : Trace} (hI : Inv P ty Wg N Shun base T0 c t) {i : Nat} (hi : i < c.j) {g : Goroutine} (hg : c.gs[base + i]? = some g) {y : Nat} (h8 : (c.D i).stage = 8) (hd : (c.D i).deaf = 0) (ha : N.act (c.D i).s = .shut y)
   (h : ∀ o', Ag c o' → KStop P ty Wg N (ownK o' i) (c.D i).s (c.D i).kg.Got (c.D i).kg.Rd g c.w) : Onward P ty Wg N Shun base T0 c t (runT P (crowd c.gs c.w c.sl) (base + i)) := by
 obtain ⟨m₀, hm₀⟩ := hI.ex
 obtain ⟨hcl, hns, _, _⟩ := hN.kshut _ _ _ _ _ _ (hI.prot m₀ hm₀).1 hi ha
 obtain ⟨q, hch⟩ := hI.chan y false hcl
 have hG := hI.gh
 have hcy := hG.ch y (by rw [hcl]; simp)
 have h0 := (h c.o (Agr.refl _ _)).2
 rw [ha] at h0
 obtain ⟨hmw, h0⟩ := h0
 obtain ⟨g', hgr, hgo, _⟩ := h0 q hch
 have hi0 : (base + i == 0) = false := by simp; omega
 have hrun := runT_crowd_go (P := P) (sl := c.sl) hg (by rw [hi0]; exact hgo)
 have hszg : base + i < c.gs.size := by rw [hI.size]; omega
 have hkeep := keep_chan hI (y := y) (by rw [hcl]; simp)
 have hny : ¬ Nc (c.w.setChan y 0 #[] true q q false) y := fun hn => hn ⟨_, _, _, _, _, _, setChan_self hch⟩
 have hchs : SameCh c.w (c.w.setChan y 0 #[] true q q false) := SameCh.put hch ⟨fun _ => ⟨_, _, _, _, _, _, rfl⟩, fun _ => ⟨_, _, _, _, _, _, rfl⟩⟩
 have hcq := fun op hop => close_quiet (Wg := Wg) hny (c := y) (g := base + i) (fn := g.frame.fn) (pos := g.frame.place) op hop
 have hothers : ∀ op ∈ MemOp.ofEvents (base + i) g.frame.fn g.frame.place (closeEvents y), op.g = base + i := fun op hop => (hcq op hop).2.2.2.2
 have hsz : (c.w.setChan y 0 #[] true q q false).heap.size = c.w.heap.size := by show (c.w.heap.setIfInBounds y _).size = _; simp
 have hdf : ∀ k, Deaf (t ++ MemOp.ofEvents (base + i) g.frame.fn g.frame.place (closeEvents y)) k = Deaf t k := fun k => Deaf_flat (fun op hop => ⟨(hcq op hop).2.2.1, (hcq op hop).2.2.2.1⟩) k
 obtain ⟨a, haa, hma⟩ := hI.main
 have hma' := hma.rely (rel_chan (x' := true) (q' := q) (r' := q) hch hkeep.2 hcy.2.2.1) (Agr.refl _ _)
 obtain ⟨tag', f', hm', hf', htag, hwk, hsame⟩ := hma'.wokenBy hN g g' (fun htg m z v hQ hz => by
   have hzc := ((hN.chans _ _ _ _ (hI.prot m hQ).1).1 z v hz)
   have hzy : z ≠ y := fun e => (hN.kshut _ _ _ _ _ _ (hI.prot m hQ).1 hi ha).2.2.1 v (e ▸ hz)
   rw [setChan_ne hzy]
   exact hI.chan z false hzc)
 let x : KDt N := ⟨N.next (c.D i).s, (c.D i).kg, 8, N.fuel + 2, 0⟩
 let D' : Nat → KDt N := upd (wakeD c.D y) i x
 have hDs : (fun k => (D' k).s) = upd (fun k => (c.D k).s) i (N.next (c.D i).s) := by
   funext k
   by_cases hk : k = i
   · subst hk; simp only [D', upd_same]; rfl
   · simp only [D', upd_ne _ _ hk, wakeD_s]
 have hDg : (fun k => (D' k).kg) = fun k => (c.D k).kg := by
   funext k
   by_cases hk : k = i
   · subst hk; simp only [D', upd_same]; rfl
   · simp only [D', upd_ne _ _ hk, wakeD_kg]
 have hDt : (fun k => (D' k).stage) = fun k => (c.D k).stage := by
   funext k
   by_cases hk : k = i
   · subst hk; simp only [D', upd_same]; exact h8.symm
   · simp only [D', upd_ne _ _ hk, wakeD_stage]
 have hpk : ∀ k, (D' k).stage = 8 → (D' k).fuel = 0 → k ≠ i ∧ (c.D k).stage = 8 ∧ (c.D k).fuel = 0 ∧ N.act (c.D k).s ≠ .recv y := fun k e8 e0 => by
   by_cases hk : k = i
   · subst hk; simp only [D', upd_same] at e0; exact absurd e0 (by simp [x])
   · simp only [D', upd_ne _ _ hk] at e8 e0
     exact ⟨hk, wakeD_pk e8 e0⟩
 refine ⟨{ c with gs := (c.gs.map (woken P g g' (c.w.setChan y 0 #[] true q q false))).setIfInBounds (base + i) g', w := c.w.setChan y 0 #[] true q q false, cl := upd c.cl y (some true), D := D', tag := tag', f0 := f' }, by rw [hrun], ?_, ?_⟩
 · show (_ ∨ _)
   left
   have e1 := kmu_upd hi (wakeD c.D y) x
   have e2 : (sumTo c.j fun k => kmu N (wakeD c.D y k)) = sumTo c.j fun k => kmu N (c.D k) := by simp only [kmu, wakeD_s, wakeD_stage]
   have e3 : kmu N (wakeD c.D y i) = kmu N (c.D i) := by simp only [kmu, wakeD_s, wakeD_stage]
   have hls := hN.lessN (c.D i).s (by simp [ha]) (by simp [ha])
   have hkx : kmu N x + 64 ≤ kmu N (c.D i) := by simp only [kmu, x, h8]; omega
   simp only [mu1]
   have hp : phi c.j (Vc c.j fun k => (D' k).stage) c.B tag' = phi c.j (Vc c.j fun k => (c.D k).stage) c.B c.tag := by
     rw [hDt]
     rcases htag with e | ⟨e, e'⟩
     · rw [e]
     · rw [e, e']; rfl
   have hD'e : (sumTo c.j fun k => kmu N (D' k)) = sumTo c.j fun k => kmu N (upd (wakeD c.D y) i x k) := rfl
   omega
 · rw [hrun]
   refine ⟨by simp [hI.size], ⟨_, by rw [get_map_set _ _ _ _ _ (by omega), haa]; rfl, hm'⟩, fun k hk => ?_, fun k z hk0 hkb hz => ?_, fun k hk => ?_, fun k hk => ?_, ?_, ?_, ?_, fun x b hx => ?_, ?_, ?_, fun k hk hsg => ?_, fun m' hm' => ?_, ⟨m₀, hm₀⟩, ?_, fun k hk e8 e0 z hz => ?_,
     fun k k' z v hk hk' e8 e0 e8' e0' hz => ?_, fun htg m hm k z v hk e8 e0 hz => ?_⟩
   · by_cases hki : k = i
     · subst hki
       refine ⟨g', get_map_set_same _ _ _ _ hszg, ?_⟩
       simp only [D', upd_same, x]
       refine .run fun o' ho => ?_
       have h1 := (h o' (by rw [hsz] at ho; exact ho)).2
       rw [ha] at h1
       obtain ⟨g'', _, hgo', hr⟩ := h1.2 q hch
       rw [hgo] at hgo'
       cases hgo'
       exact hr
     · obtain ⟨z, hz, hs⟩ := kid_wake hN hI hk (w' := c.w.setChan y 0 #[] true q q false) hmw hgr (rel_chan hch (hkeep.1 k hk) hcy.2.2.1) (fun v => hns k v hk) (setChan_self hch) (fun z hz => setChan_ne hz)
       refine ⟨_, by rw [get_map_set _ _ _ _ _ (by omega), hz]; rfl, ?_⟩
       simp only [D', upd_ne _ _ hki]
       exact hs
   · rw [get_map_set _ _ _ _ _ (by omega)] at hz
     obtain ⟨z', hz', rfl⟩ := Option.map_eq_some_iff.1 hz
     have hq := hI.old k z' hk0 hkb hz'
     rw [woken_quitsD hq, hdf]
     exact hq
   · rw [hdf]; exact hI.above k hk
   · rw [hdf]
     by_cases hki : k = i
     · subst hki; simp only [D', upd_same]; rw [hI.deafK k hk, hd]
     · simp only [D', upd_ne _ _ hki, wakeD_deaf]; exact hI.deafK k hk
   · rw [hdf, hI.deaf0]
   · rw [hDg]
     show Gh Wg Shun c.o (c.w.setChan y 0 #[] true q q false).heap.size c.Given c.Fz (fun x => upd c.cl y (some true) x ≠ none) c.j _
     rw [hsz]
     have hiff : ∀ x, (upd c.cl y (some true) x ≠ none) → c.cl x ≠ none := fun x hx => by
       by_cases hxy : x = y
       · subst hxy; rw [hcl]; simp
       · rw [upd_ne _ _ hxy] at hx; exact hx
     exact ⟨hG.wg, hG.shun, hG.fz, fun x hx => hG.ch x (hiff x hx), hG.given, fun i hi b x hx => ⟨(hG.got i hi b x hx).1, (hG.got i hi b x hx).2.1, (hG.got i hi b x hx).2.2.1, fun hh => (hG.got i hi b x hx).2.2.2 (hiff b hh)⟩, hG.rd, hG.apart, hG.mine⟩
   · rw [hDg]
     show Tr Wg Shun c.o (c.w.setChan y 0 #[] true q q false).heap.size _ _ _ _ _ _ _ _
     rw [hsz]
     exact hI.tr.appK hG (Nat.le_refl _) hchs (fun _ hc => hsz ▸ Nc.lt hc) hi hothers (fun op hop b hbb => .inr ((hcq op hop).1 b hbb)) (fun op hop => (hcq op hop).2.1)
   · show ∃ k, (c.w.setChan y 0 #[] true q q false).heap[x]? = _
     by_cases hxy : x = y
     · subst hxy
       have hx' : upd c.cl x (some true) x = some b := hx
       rw [upd_same] at hx'
       obtain rfl := Option.some.inj hx'
       exact ⟨q, setChan_self hch⟩
     · have hx' : upd c.cl y (some true) x = some b := hx
       rw [upd_ne _ _ hxy] at hx'
       rw [setChan_ne hxy]
       exact hI.chan x b hx'
   · exact hI.wg.of_block (setChan_ne hcy.2.2.1.symm)
   · rw [hDt]; exact hI.mode.retag htag
   · have hst : (D' k).stage = (c.D k).stage := congrFun hDt k
     rw [hst] at hsg
     have hki : k ≠ i := fun e => by subst e; omega
     exact (hI.rel k hk hsg).app fun op hop e => by rw [hothers op hop] at e; omega
   · rw [hDs]
     exact ⟨(hN.kshut _ _ _ _ _ _ (hI.prot m' hm').1 hi ha).2.2.2, (hI.prot m' hm').2⟩
   · have := hI.t0; simp; omega
   · obtain ⟨hki, h8', h0', hne⟩ := hpk k e8 e0
     simp only [D', upd_ne _ _ hki, wakeD_s] at hz
     have hzy : z ≠ y := fun e => hne (e ▸ hz)
     show upd c.cl y (some true) z = _
     rw [upd_ne _ _ hzy]
     exact hI.pOpen k hk h8' h0' z hz
   · obtain ⟨hki, a1, a2, _⟩ := hpk k e8 e0
     obtain ⟨hki', b1, b2, _⟩ := hpk k' e8' e0'
     simp only [D', upd_ne _ _ hki, wakeD_s] at hz
     simp only [D', upd_ne _ _ hki', wakeD_s]
     exact hI.pKK k k' z v hk hk' a1 a2 b1 b2 hz
   · obtain ⟨hki, a1, a2, _⟩ := hpk k e8 e0
     simp only [D', upd_ne _ _ hki, wakeD_s] at hz
     rcases htag with e | ⟨_, e⟩
     · exact hI.pMK (e ▸ htg) m hm k z v hk a1 a2 hz
     · rw [e] at htg; cases htg
end
section
variable {P : Program} {ty : TypeId} {Wg : Nat} {N : Net} {Shun : Nat → Prop} {base T0 : Nat}
def Meet (x y : Nat) (u : Array MemOp) : Prop := ∀ op ∈ u, op.act.touch? = none ∧ (∀ a, op.act ≠ .mark (.release a)) ∧ (op.act ≠ .mark .disable ∧ op.act ≠ .mark .enable) ∧ (op.g = x ∨ op.g = y)
theorem Mode.run_of {j : Nat} {sg : Nat → Nat} {tag : MTag} {st sm : Int} (h : Mode j sg tag st sm) (ht : tag = .run ∨ tag = .pk) : Mode j sg .run st sm := by
 cases h with
 | opn h1 h2 h3 =>
   have e : pend tag = pend .run := by rcases ht with rfl | rfl <;> rfl
   rw [e]
   exact .opn trivial h2 (fun vs hvs => by cases hvs)
 | reg h1 _ _ => rcases ht with rfl | rfl <;> exact h1.elim
 | last L h1 _ _ _ => rcases ht with rfl | rfl <;> exact h1.elim
 | sema _ => rcases ht with h | h <;> cases h
 | fin h1 _ => rcases ht with rfl | rfl <;> exact h1.elim
theorem at_chan {w : World} {d y q r : Nat} {x : Bool} : ((w.at d).setChan y 0 #[] x q r false).heap = (w.setChan y 0 #[] x q r false).heap := rfl
theorem rel_chan_at {Keep : Cells} {w : World} {c q r q' r' d : Nat} {x x' : Bool} (h : w.heap[c]? = some (.chan 0 #[] x q r false)) (hK : ∀ o, ¬ Keep c o) (hc : c ≠ Wg) : Rel ty Wg Keep w ((w.at d).setChan c 0 #[] x' q' r' false) :=
 (Rel.at w d).trans (rel_chan (w := w.at d) h hK hc)
theorem meet_main (hN : NetOK P ty Wg N) (hb : 0 < base) {c : Cf N} {t : Trace} (hI : Inv P ty Wg N Shun base T0 c t) {m : N.M} {i y : Nat} {v : Value} (hQ : c.Q m) (hm : N.mact m = .send y v) (htag : c.tag = .run ∨ c.tag = .pk) (hd0 : c.d0 = 0)
   (hi : i < c.j) (h8 : (c.D i).stage = 8) (hd : (c.D i).deaf = 0) (hact : N.act (c.D i).s = .recv y) {gm gk : Goroutine}
   (hM : ∀ o', Ag c o' → MOffer P ty Wg N (own0 o') m c.Given c.Fz y v gm c.w) (hK : ∀ o', Ag c o' → Await P ty Wg N (ownK o' i) (c.D i).s (c.D i).kg.Got (c.D i).kg.Rd y gk c.w)
   {gs' : Array Goroutine} {u : Array MemOp} {d q : Nat} {sl : Option (Nat × Nat)} (hq : c.w.heap[y]? = some (.chan 0 #[] false q q false)) (hsz : gs'.size = c.gs.size) (hg0 : gs'[0]? = some (gm.finishComm P #[scase y v (N.mzero m)] .send 0 undef false))
   (hgi : gs'[base + i]? = some (gk.finishComm P #[rcase y (N.zero (c.D i).s)] (N.shape (c.D i).s) 0 v true)) (hgo : ∀ k, k ≠ 0 → k ≠ base + i → gs'[k]? = c.gs[k]?) (hu : Meet 0 (base + i) u)
   (hkn : ∀ x, Deaf t 0 = 0 → Deaf t (base + i) = 0 → Knows t 0 x → Knows (t ++ u) (base + i) x) :
   Onward P ty Wg N Shun base T0 c t (.next (crowd gs' ((c.w.at d).setChan y 0 #[] false (q + 1) (q + 1) false) sl), u) := by
 obtain ⟨hok, hpos, hsucc⟩ := hN.mmeet _ _ _ _ _ _ _ (hI.prot m hQ).1 hm hi hact
 have hcl := ((hN.chans _ _ _ _ (hI.prot m hQ).1).1) y v hm
 have hG := hI.gh
 have hcy := hG.ch y (by rw [hcl]; simp)
 have hkeep := keep_chan hI (y := y) (by rw [hcl]; simp)
 have hsame : SameCh c.w ((c.w.at d).setChan y 0 #[] false (q + 1) (q + 1) false) := fun b hb => SameCh.put (w := c.w.at d) hq ⟨fun _ => ⟨_, _, _, _, _, _, rfl⟩, fun _ => ⟨_, _, _, _, _, _, rfl⟩⟩ b hb
 have hwsz : ((c.w.at d).setChan y 0 #[] false (q + 1) (q + 1) false).heap.size = c.w.heap.size := by show (c.w.heap.setIfInBounds y _).size = _; simp
 have hdf : ∀ k, Deaf (t ++ u) k = Deaf t k := fun k => Deaf_flat (fun op hop => (hu op hop).2.2.1) k
 have hD0 : Deaf t 0 = 0 := by rw [hI.deaf0, hd0]
 have hDi : Deaf t (base + i) = 0 := by rw [hI.deafK i hi, hd]
 have hKR : ∀ o', Ag c o' → ∀ k, k < c.j → KR ty Wg (ownK o' k) (c.D k).kg.Got (c.D k).kg.Rd c.w ((c.w.at d).setChan y 0 #[] false (q + 1) (q + 1) false) := fun o' ho k hk => KR.agr (rel_chan_at hq (hkeep.1 k hk) hcy.2.2.1) ho
 have hMR : ∀ o', Ag c o' → MR ty Wg (own0 o') c.Given c.w ((c.w.at d).setChan y 0 #[] false (q + 1) (q + 1) false) := fun o' ho => MR.agr (rel_chan_at hq hkeep.2 hcy.2.2.1) ho
 have hS : ∀ b x, N.gift v b x → b < c.w.heap.size ∧ c.o b = 0 ∧ ¬ c.Given b x ∧ ¬ c.Fz b := (hM c.o (Agr.refl _ _)).1
 let x : KDt N := ⟨N.got (c.D i).s v, ⟨fun b z => (c.D i).kg.Got b z ∨ N.gift v b z, (c.D i).kg.Rd⟩, 8, N.fuel + 2, 0⟩
 have hDs : (fun k => (upd c.D i x k).s) = upd (fun k => (c.D k).s) i (N.got (c.D i).s v) := by
   funext k; unfold upd; split <;> rfl
 have hDg : (fun k => (upd c.D i x k).kg) = upd (fun k => (c.D k).kg) i ⟨fun b z => (c.D i).kg.Got b z ∨ N.gift v b z, (c.D i).kg.Rd⟩ := by
   funext k; unfold upd; split <;> rfl
 have hDt : (fun k => (upd c.D i x k).stage) = fun k => (c.D k).stage := stage_same h8.symm
 have hpk : ∀ k, (upd c.D i x k).stage = 8 → (upd c.D i x k).fuel = 0 → k ≠ i := fun k _ e0 hk => by
   subst hk; simp only [upd_same] at e0; exact absurd e0 (by simp [x])
 refine ⟨{ c with gs := gs', w := (c.w.at d).setChan y 0 #[] false (q + 1) (q + 1) false, sl := sl, Given := (fun b z => c.Given b z ∨ N.gift v b z), D := upd c.D i x, tag := .run, Q := N.succ m, B := N.muM m - 1, f0 := N.fuel + 1, d0 := 0 }, rfl, ?_, ?_⟩
 · show (_ ∨ _)
   left
   have e1 := kmu_upd hi c.D x
   have hB := (hI.prot m hQ).2
   have hls := hN.less _ _ hok
   have hkx : kmu N x + 64 ≤ kmu N (c.D i) := by simp only [kmu, x, h8]; omega
   simp only [mu1]
   have hp : phi c.j (Vc c.j fun k => (c.D k).stage) c.B c.tag = 64 * c.B + 8 * c.j + 20 := by rcases htag with e | e <;> rw [e] <;> rfl
   rw [hp]
   simp only [phi]
   omega
 · refine ⟨hsz.trans hI.size, ⟨_, hg0, .run fun o' ho => ?_⟩, fun k hk => ?_, fun k z hk0 hkb hz => ?_, fun k hk => ?_, fun k hk => ?_, ?_, ?_, ?_, fun z b hz => ?_, ?_, ?_, fun k hk hsg => ?_, fun m' hm' => ?_, hN.some m (by rw [hm]; simp), ?_, fun k hk e8 e0 z hz => ?_,
     fun k k' z w hk hk' e8 e0 e8' e0' hz => ?_, fun htg => by simp at htg⟩
   · have ho' : Ag c o' := by rw [hwsz] at ho; exact ho
     exact (hM o' ho').2.2 _ (hMR o' ho')
   · by_cases hki : k = i
     · subst hki
       refine ⟨_, hgi, ?_⟩
       simp only [upd_same, x]
       refine .run fun o' ho => ?_
       have ho' : Ag c o' := by rw [hwsz] at ho; exact ho
       exact (hK o' ho').1 v _ (hKR o' ho' k hk) hok ((hM o' ho').2.1 _ (hMR o' ho')) fun b z hz => ⟨fun hgz => (hS b z hz).2.2.1 ((hG.got _ hk b z hgz).1), fun hr => (hS b z hz).2.2.2 (hG.rd _ hk b hr)⟩
     · obtain ⟨z, hz, hsz'⟩ := hI.kids k hk
       refine ⟨z, by rw [hgo _ (by omega) (by omega)]; exact hz, ?_⟩
       simp only [upd_ne _ _ hki]
       exact hsz'.rely (hKR c.o (Agr.refl _ _) k hk) (Agr.refl _ _)
   · have hz' : gs'[k]? = some z := hz
     rw [hgo _ (by omega) (by omega)] at hz'
     rw [hdf]
     exact hI.old k z hk0 hkb hz'
   · rw [hdf]; exact hI.above k hk
   · rw [hdf]
     by_cases hki : k = i
     · subst hki; simp only [upd_same]; exact hDi
     · simp only [upd_ne _ _ hki]; exact hI.deafK k hk
   · rw [hdf]; exact hD0
   · rw [hDg]
     show Gh Wg Shun c.o ((c.w.at d).setChan y 0 #[] false (q + 1) (q + 1) false).heap.size _ _ _ _ _
     rw [hwsz]
     exact hG.give hS
   · rw [hDg]
     show Tr Wg Shun c.o ((c.w.at d).setChan y 0 #[] false (q + 1) (q + 1) false).heap.size _ _ _ _ _ _ _ _
     rw [hwsz]
     exact (hI.tr.give hS (fun op hop => (hu op hop).1) (fun op hop => (hu op hop).2.1) (fun z hz => hkn z hD0 hDi hz)).nc hsame
   · show ∃ k, ((c.w.at d).setChan y 0 #[] false (q + 1) (q + 1) false).heap[z]? = _
     rw [at_chan]
     by_cases hzy : z = y
     · subst hzy
       have hz' : c.cl z = some b := hz
       rw [hcl] at hz'
       obtain rfl := Option.some.inj hz'
       exact ⟨q + 1, setChan_self hq⟩
     · rw [setChan_ne hzy]
       exact hI.chan z b hz
   · exact hI.wg.of_block (setChan_ne (w := c.w) hcy.2.2.1.symm)
   · rw [hDt]; exact hI.mode.run_of htag
   · have hst : (upd c.D i x k).stage = (c.D k).stage := congrFun hDt k
     rw [hst] at hsg
     exact (hI.rel k hk hsg).app fun op hop e => by
       have hki : k ≠ i := fun e => by subst e; omega
       rcases (hu op hop).2.2.2 with h | h <;> omega
   · rw [hDs]
     have := hsucc m' hm'
     refine ⟨this.1, ?_⟩
     show N.muM m' ≤ N.muM m - 1
     omega
   · have := hI.t0; simp; omega
   · have hki := hpk k e8 e0
     simp only [upd_ne _ _ hki] at e8 e0 hz
     exact hI.pOpen k hk e8 e0 z hz
   · have hki := hpk k e8 e0
     have hki' := hpk k' e8' e0'
     simp only [upd_ne _ _ hki] at e8 e0 hz
     simp only [upd_ne _ _ hki'] at e8' e0' ⊢
     exact hI.pKK k k' z w hk hk' e8 e0 e8' e0' hz
theorem meet_kids (hN : NetOK P ty Wg N) (hb : 0 < base) {c : Cf N} {t : Trace} (hI : Inv P ty Wg N Shun base T0 c t) {i k y : Nat} {v : Value} (hi : i < c.j) (hk : k < c.j) (hik : i ≠ k) (hi8 : (c.D i).stage = 8) (hid : (c.D i).deaf = 0) (hia : N.act (c.D i).s = .send y v)
   (hk8 : (c.D k).stage = 8) (hkd : (c.D k).deaf = 0) (hka : N.act (c.D k).s = .recv y) {gi gk : Goroutine}
   (hO : ∀ o', Ag c o' → Offer P ty Wg N (ownK o' i) (c.D i).s (c.D i).kg.Got (c.D i).kg.Rd y v gi c.w) (hA : ∀ o', Ag c o' → Await P ty Wg N (ownK o' k) (c.D k).s (c.D k).kg.Got (c.D k).kg.Rd y gk c.w)
   {gs' : Array Goroutine} {u : Array MemOp} {d q : Nat} {sl : Option (Nat × Nat)} (hq : c.w.heap[y]? = some (.chan 0 #[] false q q false)) (hsz : gs'.size = c.gs.size) (hgi : gs'[base + i]? = some (gi.finishComm P #[scase y v (N.zero (c.D i).s)] .send 0 undef false))
   (hgk : gs'[base + k]? = some (gk.finishComm P #[rcase y (N.zero (c.D k).s)] (N.shape (c.D k).s) 0 v true)) (hgo : ∀ x, x ≠ base + i → x ≠ base + k → gs'[x]? = c.gs[x]?) (hu : Meet (base + i) (base + k) u) :
   Onward P ty Wg N Shun base T0 c t (.next (crowd gs' ((c.w.at d).setChan y 0 #[] false (q + 1) (q + 1) false) sl), u) := by
 obtain ⟨m₀, hm₀⟩ := hI.ex
 obtain ⟨hok, _⟩ := hN.kmeet _ _ _ _ _ _ _ _ (hI.prot m₀ hm₀).1 hi hk hik hia hka
 have hcl := ((hN.chans _ _ _ _ (hI.prot m₀ hm₀).1).2 i hi).2 y v hia
 have hG := hI.gh
 have hcy := hG.ch y (by rw [hcl]; simp)
 have hkeep := keep_chan hI (y := y) (by rw [hcl]; simp)
 have hsame : SameCh c.w ((c.w.at d).setChan y 0 #[] false (q + 1) (q + 1) false) := fun b hb => SameCh.put (w := c.w.at d) hq ⟨fun _ => ⟨_, _, _, _, _, _, rfl⟩, fun _ => ⟨_, _, _, _, _, _, rfl⟩⟩ b hb
 have hwsz : ((c.w.at d).setChan y 0 #[] false (q + 1) (q + 1) false).heap.size = c.w.heap.size := by show (c.w.heap.setIfInBounds y _).size = _; simp
 have hdf : ∀ x, Deaf (t ++ u) x = Deaf t x := fun x => Deaf_flat (fun op hop => (hu op hop).2.2.1) x
 have hKR : ∀ o', Ag c o' → ∀ x, x < c.j → KR ty Wg (ownK o' x) (c.D x).kg.Got (c.D x).kg.Rd c.w ((c.w.at d).setChan y 0 #[] false (q + 1) (q + 1) false) := fun o' ho x hx => KR.agr (rel_chan_at hq (hkeep.1 x hx) hcy.2.2.1) ho
 have hMR : MR ty Wg (own0 c.o) c.Given c.w ((c.w.at d).setChan y 0 #[] false (q + 1) (q + 1) false) := rel_chan_at hq hkeep.2 hcy.2.2.1
 have hng := (hO c.o (Agr.refl _ _)).1
 have hGot : (fun b z => (c.D k).kg.Got b z ∨ N.gift v b z) = (c.D k).kg.Got := by
   funext b z
   exact propext ⟨fun h => h.elim id fun h => absurd h (hng b z), .inl⟩
 let xi : KDt N := ⟨N.next (c.D i).s, (c.D i).kg, 8, N.fuel + 2, 0⟩
 let xk : KDt N := ⟨N.got (c.D k).s v, (c.D k).kg, 8, N.fuel + 2, 0⟩
 have hki : k ≠ i := Ne.symm hik
 have hDs : (fun x => (upd (upd c.D i xi) k xk x).s) = upd (upd (fun x => (c.D x).s) i (N.next (c.D i).s)) k (N.got (c.D k).s v) := by
   funext x; unfold upd; repeat' split
   all_goals rfl
 have hDg : (fun x => (upd (upd c.D i xi) k xk x).kg) = fun x => (c.D x).kg := by
   funext x; unfold upd
   split
   · rename_i e; subst e; rfl
   · split
     · rename_i e; subst e; rfl
     · rfl
 have hDt : (fun x => (upd (upd c.D i xi) k xk x).stage) = fun x => (c.D x).stage := by
   funext x; unfold upd
   split
   · rename_i e; subst e; exact hk8.symm
   · split
     · rename_i e; subst e; exact hi8.symm
     · rfl
 have hpk : ∀ x, (upd (upd c.D i xi) k xk x).stage = 8 → (upd (upd c.D i xi) k xk x).fuel = 0 → x ≠ i ∧ x ≠ k := fun x _ e0 => by
   refine ⟨fun e => ?_, fun e => ?_⟩
   · subst e
     rw [upd_ne _ _ hik, upd_same] at e0
     exact absurd e0 (by simp [xi])
   · subst e
     rw [upd_same] at e0
     exact absurd e0 (by simp [xk])
 have hoth : ∀ x, x ≠ i → x ≠ k → upd (upd c.D i xi) k xk x = c.D x := fun x h1 h2 => by rw [upd_ne _ _ h2, upd_ne _ _ h1]
 have hDi : upd (upd c.D i xi) k xk i = xi := by rw [upd_ne _ _ hik, upd_same]
 have hDk : upd (upd c.D i xi) k xk k = xk := upd_same _ _ _
 refine ⟨{ c with gs := gs', w := (c.w.at d).setChan y 0 #[] false (q + 1) (q + 1) false, sl := sl, D := upd (upd c.D i xi) k xk }, rfl, ?_, ?_⟩
 · show (_ ∨ _)
   left
   have e1 := kmu_upd hi c.D xi
   have e2 := kmu_upd hk (upd c.D i xi) xk
   rw [upd_ne _ _ hki] at e2
   have hl1 := hN.less _ _ hok
   have hl2 := hN.lessN (c.D i).s (by simp [hia]) (by simp [hia])
   have h1 : kmu N xi + 64 ≤ kmu N (c.D i) := by simp only [kmu, xi, hi8]; omega
   have h2 : kmu N xk + 64 ≤ kmu N (c.D k) := by simp only [kmu, xk, hk8]; omega
   simp only [mu1, hDt]
   omega
 · obtain ⟨a, ha, hma⟩ := hI.main
   refine ⟨hsz.trans hI.size, ⟨a, by rw [hgo _ (by omega) (by omega)]; exact ha, hma.rely hMR (Agr.refl _ _)⟩, fun x hx => ?_, fun x z hx0 hxb hz => ?_, fun x hx => ?_, fun x hx => ?_, ?_, ?_, ?_, fun z b hz => ?_, ?_, ?_, fun x hx hsg => ?_, fun m' hm' => ?_, ⟨m₀, hm₀⟩, ?_, fun x hx e8 e0 z hz => ?_,
     fun x x' z w hx hx' e8 e0 e8' e0' hz => ?_, fun htg m hm x z w hx e8 e0 hz => ?_⟩
   · by_cases hxi : x = i
     · subst hxi
       refine ⟨_, hgi, ?_⟩
       simp only [hDi, xi]
       refine .run fun o' ho => ?_
       have ho' : Ag c o' := by rw [hwsz] at ho; exact ho
       exact ((hO o' ho').2 _ (hKR o' ho' x hx)).2
     · by_cases hxk : x = k
       · subst hxk
         refine ⟨_, hgk, ?_⟩
         simp only [hDk, xk]
         refine .run fun o' ho => ?_
         have ho' : Ag c o' := by rw [hwsz] at ho; exact ho
         have hmsg := ((hO o' ho').2 _ (hKR o' ho' i hi)).1
         have := (hA o' ho').1 v _ (hKR o' ho' x hx) hok hmsg fun b z hz => ((hO o' ho').1 b z hz).elim
         rw [hGot] at this
         exact this
       · obtain ⟨z, hz, hsz'⟩ := hI.kids x hx
         refine ⟨z, by rw [hgo _ (by omega) (by omega)]; exact hz, ?_⟩
         simp only [hoth x hxi hxk]
         exact hsz'.rely (hKR c.o (Agr.refl _ _) x hx) (Agr.refl _ _)
   · have hz' : gs'[x]? = some z := hz
     rw [hgo _ (by omega) (by omega)] at hz'
     rw [hdf]
     exact hI.old x z hx0 hxb hz'
   · rw [hdf]; exact hI.above x hx
   · rw [hdf]
     by_cases hxi : x = i
     · subst hxi; simp only [hDi]; rw [hI.deafK x hx, hid]
     · by_cases hxk : x = k
       · subst hxk; simp only [hDk]; rw [hI.deafK x hx, hkd]
       · simp only [hoth x hxi hxk]; exact hI.deafK x hx
   · rw [hdf]; exact hI.deaf0
   · rw [hDg]
     show Gh Wg Shun c.o ((c.w.at d).setChan y 0 #[] false (q + 1) (q + 1) false).heap.size _ _ _ _ _
     rw [hwsz]
     exact hG
   · rw [hDg]
     show Tr Wg Shun c.o ((c.w.at d).setChan y 0 #[] false (q + 1) (q + 1) false).heap.size _ _ _ _ _ _ _ _
     rw [hwsz]
     exact (hI.tr.appN (fun op hop => (hu op hop).1) (fun op hop => (hu op hop).2.1)).nc hsame
   · show ∃ k, ((c.w.at d).setChan y 0 #[] false (q + 1) (q + 1) false).heap[z]? = _
     rw [at_chan]
     by_cases hzy : z = y
     · subst hzy
       have hz' : c.cl z = some b := hz
       rw [hcl] at hz'
       obtain rfl := Option.some.inj hz'
       exact ⟨q + 1, setChan_self hq⟩
     · rw [setChan_ne hzy]
       exact hI.chan z b hz
   · exact hI.wg.of_block (setChan_ne (w := c.w) hcy.2.2.1.symm)
   · rw [hDt]; exact hI.mode
   · have hst : (upd (upd c.D i xi) k xk x).stage = (c.D x).stage := congrFun hDt x
     rw [hst] at hsg
     exact (hI.rel x hx hsg).app fun op hop e => by
       have h1 : x ≠ i := fun e => by subst e; omega
       have h2 : x ≠ k := fun e => by subst e; omega
       rcases (hu op hop).2.2.2 with h | h <;> omega
   · rw [hDs]
     exact ⟨(hN.kmeet _ _ _ _ _ _ _ _ (hI.prot m' hm').1 hi hk hik hia hka).2, (hI.prot m' hm').2⟩
   · have := hI.t0; simp; omega
   · obtain ⟨h1, h2⟩ := hpk x e8 e0
     simp only [hoth x h1 h2] at e8 e0 hz
     exact hI.pOpen x hx e8 e0 z hz
   · obtain ⟨h1, h2⟩ := hpk x e8 e0
     obtain ⟨h1', h2'⟩ := hpk x' e8' e0'
     simp only [hoth x h1 h2] at e8 e0 hz
     simp only [hoth x' h1' h2'] at e8' e0' ⊢
     exact hI.pKK x x' z w hx hx' e8 e0 e8' e0' hz
   · obtain ⟨h1, h2⟩ := hpk x e8 e0
     simp only [hoth x h1 h2] at e8 e0 hz
     exact hI.pMK htg m hm x z w hx e8 e0 hz
end
end Go.Proofs.Ytblpmdolclalnaa
