/- THE MACHINE's THEOREM OF A NET: from the first Add to the end of Wait, on whatever tape. Goroutine 0 at work alone beside goroutines that only leave: its walk is carried out by the machine, and its return ends the run well. Conditions: the walk lists accesses of cells that are not shunned. The link of this dump to the kit's walks of sync.WaitGroup: which number each of its .. -/
import Derived.Test.YtblpmdolclalnaaChecked
import Derived.Test.YtblpmdolclalnaaQ07
import Derived.Conc.WgGenN3
import Derived.Conc.LeavingOf
set_option maxHeartbeats 16000000
set_option linter.unusedSimpArgs false
set_option linter.unusedVariables false
namespace Go.Proofs
abbrev Try.link : Go.Conc.Lib.WgLink := { add := 26, done := 28, wait := 29, relMerge := 41, disable := 42, enable := 43, inBubble := 44, associate := 45, fatal := 46, uOr := 47, uAdd := 48, raceRead := 49, uLoad := 50, uStore := 51, disassociate := 52, semrelease := 53, acquire := 54, isAssociated := 55, uCas := 56, raceWrite := 57, semacquire := 58, orU64 := 60, addU64 := 61, loadU64 := 62, storeU64 := 63, casU64 := 64, tWgP := 86, tUP := 88, tAssoc := 89, tWg := 66, tAU := 63, tU64 := 61, tUint := 93, tU32 := 64, tPU32 := 94, tPAU := 103, tPU64 := 105, tNoCopy := 59, tANoCopy := 51, tAlign64 := 60 }
theorem Try.wgLib : Go.Conc.Lib.WgLib Try.prog Try.link :=
 ⟨Try.func26, Try.func28, Try.func29, Try.func41, Try.func42, Try.func43, Try.func44, Try.func45, Try.func46, Try.func47, Try.func48, Try.func49, Try.func50, Try.func51, Try.func52, Try.func53, Try.func54, Try.func55, Try.func56, Try.func57, Try.func58, Try.func60, Try.func61, Try.func62, Try.func63, Try.func64, Try.underlying86, Try.runUnderlying86, Try.sizeOf86, Try.isAgg86, Try.zeroValue86, Try.underlying88, Try.runUnderlying88, Try.sizeOf88, Try.isAgg88, Try.zeroValue88, Try.underlying89, Try.runUnderlying89, Try.sizeOf89, Try.isAgg89, Try.zeroValue89, Try.underlying66, Try.runUnderlying66, Try.sizeOf66, Try.isAgg66, Try.zeroValue66, Try.underlying63, Try.runUnderlying63, Try.sizeOf63, Try.isAgg63, Try.zeroValue63, Try.underlying61, Try.runUnderlying61, Try.sizeOf61, Try.isAgg61, Try.zeroValue61, Try.underlying93, Try.runUnderlying93, Try.sizeOf93, Try.isAgg93, Try.zeroValue93, Try.underlying64, Try.runUnderlying64, Try.sizeOf64, Try.isAgg64, Try.zeroValue64, Try.underlying94, Try.runUnderlying94, Try.sizeOf94, Try.isAgg94, Try.zeroValue94, Try.underlying103, Try.runUnderlying103, Try.sizeOf103, Try.isAgg103, Try.zeroValue103, Try.underlying105, Try.runUnderlying105, Try.sizeOf105, Try.isAgg105, Try.zeroValue105, Try.underlying0, Try.runUnderlying0, Try.sizeOf0, Try.isAgg0, Try.zeroValue0, Try.underlying3, Try.runUnderlying3, Try.sizeOf3, Try.isAgg3, Try.zeroValue3, Try.underlying4, Try.runUnderlying4, Try.sizeOf4, Try.isAgg4, Try.zeroValue4, Try.underlying9, Try.runUnderlying9, Try.sizeOf9, Try.isAgg9, Try.zeroValue9, Try.underlying20, Try.runUnderlying20, Try.sizeOf20, Try.isAgg20, Try.zeroValue20, Try.underlying21, Try.runUnderlying21, Try.sizeOf21, Try.isAgg21, Try.zeroValue21, (by kernel_rfl), (by kernel_rfl)⟩
end Go.Proofs
namespace Go.Proofs.Ytblpmdolclalnaa
open Go.Conc
open Go.ConcR (WgAt KK stA smA rd wr mk DC0 deafBehind_cons deafBehind_one ofEvent_mk)
open Go.ConcN (WgLive sumTo upd upd_same upd_ne sumTo_upd sumTo_congr RelBy)
section
variable {P : Program} {ty : TypeId} {Wg : Nat} {N : Net} {Shun : Nat → Prop} {base T0 : Nat}
theorem kid_step (hN : NetOK P ty Wg N) (hb : 0 < base) {c : Cf N} {t : Trace} (hI : Inv P ty Wg N Shun base T0 c t) {i : Nat} (hi : i < c.j) {g : Goroutine} (hg : c.gs[base + i]? = some g) (hrun : g.status = .running) : Onward P ty Wg N Shun base T0 c t (runT P (crowd c.gs c.w c.sl) (base + i)) := by
 obtain ⟨g₀, hg₀, hs⟩ := hI.kids i hi
 rw [hg] at hg₀
 obtain rfl := Option.some.inj hg₀
 by_cases h6 : (c.D i).stage ≤ 6
 · exact kid_done hN hb hI hi hg hrun h6 hs
 have hs' := hs
 generalize hst : (c.D i).stage = stage at hs' h6
 generalize hfu : (c.D i).fuel = fuel at hs'
 generalize hde : (c.D i).deaf = deaf at hs'
 obtain ⟨m₀, hm₀⟩ := hI.ex
 cases hs' with
 | run h =>
   rename_i m
   have shape : ∀ o, Ag c o → N.Kid (ownK o i) (c.D i).s (c.D i).kg.Got (c.D i).kg.Rd g c.w → ∀ o', Ag c o' → ∀ (X : Goroutine → World → Prop), ¬ (stepG P false g c.w).goes fun g' w' es => KD Wg (ownK o' i) (c.D i).kg.Got (c.D i).kg.Rd c.w w' es ∧ X g' w' := fun o ho hK o' ho' X => by
     have hk := (hN.kid _ _ _ _ _ _ hK).2
     cases hact : N.act (c.D i).s with
     | recv y => rw [hact] at hk; exact goes_not_comm hk.1
     | send y v => rw [hact] at hk; exact goes_not_comm hk.1
     | shut y =>
       rw [hact] at hk
       obtain ⟨hcl, _⟩ := hN.kshut _ _ _ _ _ _ (hI.prot m₀ hm₀).1 hi hact
       obtain ⟨q, hch⟩ := hI.chan y false hcl
       obtain ⟨g', _, hgo, _⟩ := hk.2 q hch
       rw [hgo]
       rintro ⟨hD, _⟩
       exact (evOK_not (hD.evs ⟨.obj y, false, true⟩ (by simp [closeEvents]))).2.2 _ _ rfl
     | atom b y =>
       rw [hact] at hk
       obtain ⟨hcel, hok, _⟩ := hN.atom _ _ _ _ _ _ _ (hI.prot m₀ hm₀).1 hi hact
       have hab := hI.gh.ab b ⟨y, hcel⟩
       have hno : ∀ o', Ag c o' → ∀ x, ¬ keepK (ownK o' i) (c.D i).kg.Got (c.D i).kg.Rd b x := fun o' ho' x hx => by
         rcases hx with e | e | e
         · unfold ownK at e; rw [ho' _ hab.1.1, hab.1.2.1] at e; omega
         · exact (hI.gh.got i hi _ _ e).2.2.1 (.inr ⟨y, hcel⟩)
         · exact hab.1.2.2.2.1 (hI.gh.rd i hi _ e)
       obtain ⟨g', hgo, _⟩ := hk (hno o ho) hab.2 _ hok (hI.cells b y hcel)
       rw [hgo]
       rintro ⟨hD, _⟩
       replace hno := hno o' ho'
       have hin : (⟨.cell ⟨b, y, none⟩, false, true⟩ : Event) ∈ atomE b y (N.put (c.D i).s (N.val c.j (fun i => (c.D i).s) b y)) := by
         generalize N.put (c.D i).s (N.val c.j (fun i => (c.D i).s) b y) = p
         cases p <;> simp [atomE]
       rcases hD.evs _ hin with ⟨a, wr, sy, e, _, _, hx⟩ | ⟨e, _⟩ | ⟨e, _⟩ | e
       · cases e
         rcases hx with hx | hx | ⟨_, hx⟩
         · have : c.w.heap.size ≤ b := hx
           omega
         · exact hno y (hx.imp id .inl)
         · exact hno y hx
       · cases e
       · cases e
       · cases e
     | done =>
       rw [hact] at hk
       obtain ⟨_, g', hgo, _⟩ := hk
       rw [hgo]
       rintro ⟨hD, _⟩
       exact (evOK_not (hD.evs (mk (.releaseMerge (stA Wg))) (by simp))).2.1 _ (by simp) (by simp) (by simp) rfl
   rcases goo_alls (fun o w => Rel.refl w) (ag_ex c) h (fun o ho hs o' ho' m' => shape o ho hs o' ho' _) with hs | ⟨k, e, hs⟩
   · exact kid_stop hN hb hI hi hg hst (by omega) hde fun o' ho w₁ h₁ => hN.kid _ _ _ _ _ _ (hs o' ho w₁ h₁)
   · exact kid_plain hN hb hI hi hg (m := k) hst (by omega) hde hs
 | wok h => exact kid_stop hN hb hI hi hg hst (by omega) hde h
 | pkR _ _ => cases hrun
 | pkS _ _ => cases hrun
 | _ => omega
theorem some_runs (hN : NetOK P ty Wg N) {c : Cf N} {t : Trace} (hI : Inv P ty Wg N Shun base T0 c t) : ∃ (i : Nat) (g : Goroutine), c.gs[i]? = some g ∧ g.status = .running := by
 obtain ⟨a, ha, hma⟩ := hI.main
 by_cases hr : a.status = .running
 · exact ⟨0, a, ha, hr⟩
 by_cases hk : ∃ i, i < c.j ∧ ∃ g, c.gs[base + i]? = some g ∧ g.status = .running
 · obtain ⟨i, _, g, hg, hr⟩ := hk
   exact ⟨_, g, hg, hr⟩
 exfalso
 have hkid : ∀ i, i < c.j → ((c.D i).stage = 8 ∧ (c.D i).fuel = 0 ∧ ((∃ y, N.act (c.D i).s = .recv y) ∨ ∃ y v, N.act (c.D i).s = .send y v)) ∨ ((c.D i).stage = 1 ∧ N.act (c.D i).s = .done) := fun i hi => by
   obtain ⟨g, hg, hs⟩ := hI.kids i hi
   rcases hs.status hN with ⟨e, _⟩ | ⟨e, _⟩ | ⟨_, e⟩
   · exact absurd ⟨i, hi, g, hg, e⟩ hk
   · exact .inl (hs.parkedX hN e)
   · right
     refine ⟨e, ?_⟩
     generalize (c.D i).fuel = f at hs
     generalize (c.D i).deaf = d at hs
     generalize (c.D i).stage = st at hs e
     cases hs with
     | quit h _ _ => exact h
     | k1 h _ _ => exact h
     | d1 h _ _ => exact h
     | d2 h _ _ => exact h
     | d3 h _ _ => exact h
     | d4 h _ _ => exact h
     | _ => omega
 have htag : c.tag = .pk ∨ c.tag = .blk := by
   rcases hma.status hN with ⟨e, _⟩ | ⟨_, e⟩
   · exact absurd e hr
   · exact e
 have hmm : ∃ m, c.Q m ∧ ((∃ y v, N.mact m = .send y v) ∨ N.mact m = .wait) ∧ (c.tag = .blk → N.mact m = .wait) ∧ (c.tag = .pk → ∃ y v, N.mact m = .send y v) := by
   rcases htag with e | e
   · obtain ⟨m, g', y, v, hQ, _, hm, _⟩ := hma.parkedM e
     exact ⟨m, hQ, .inl ⟨y, v, hm⟩, (fun h => by rw [e] at h; cases h), fun _ => ⟨y, v, hm⟩⟩
   · generalize c.tag = tg at hma e ⊢
     generalize c.Q = Q at hma ⊢
     generalize c.f0 = f at hma
     generalize c.d0 = d at hma
     cases hma with
     | blk hm _ => exact ⟨_, rfl, .inr hm, (fun _ => hm), fun h => by cases h⟩
     | _ => cases e
 obtain ⟨m, hQ, hm, hblk, hpk⟩ := hmm
 obtain ⟨hw, hdone⟩ := hN.prog _ _ _ _ (hI.prot m hQ).1 (fun i hi => by
   rcases hkid i hi with ⟨h8, h0, ⟨y, hy⟩ | ⟨y, v, hy⟩⟩ | ⟨_, hd⟩
   · exact .inl ⟨y, hy, hI.pOpen i hi h8 h0 y hy⟩
   · exact .inr (.inl ⟨y, v, hy⟩)
   · exact .inr (.inr hd)) hm (fun i k y v hi hk' hy => by
     rcases hkid i hi with ⟨h8, h0, _⟩ | ⟨_, hd⟩
     · rcases hkid k hk' with ⟨h8', h0', _⟩ | ⟨_, hd'⟩
       · exact hI.pKK i k y v hi hk' h8 h0 h8' h0' hy
       · rw [hd']; simp
     · rw [hd] at hy; cases hy) (fun i y v hi hy => by
     rcases hkid i hi with ⟨h8, h0, _⟩ | ⟨_, hd⟩
     · rcases htag with e | e
       · exact hI.pMK e m hQ i y v hi h8 h0 hy
       · rw [hblk e]; simp
     · rw [hd] at hy; cases hy)
 have hall : ∀ i, i < c.j → (c.D i).stage = 1 := fun i hi => by
   rcases hkid i hi with ⟨_, _, ⟨y, hy⟩ | ⟨y, v, hy⟩⟩ | ⟨h1, _⟩
   · rw [hdone i hi] at hy; cases hy
   · rw [hdone i hi] at hy; cases hy
   · exact h1
 have hmode := hI.mode
 rcases htag with e | e
 · obtain ⟨y, v, hsd⟩ := hpk e
   rw [hw] at hsd; cases hsd
 · rw [e] at hmode
   generalize c.st = st at hmode
   generalize c.sm = sm at hmode
   cases hmode with
   | opn h1 _ _ => exact h1.elim
   | reg _ _ h3 =>
     have : Vc c.j (fun i => (c.D i).stage) = 0 := by
       unfold Vc
       rw [sumTo_congr (g := fun _ => 0) fun i hi => by simp [hall i hi, cnt]]
       have := Go.ConcN.sumTo_le (f := fun _ => 0) (c := 0) (j := c.j) fun _ _ => Nat.le_refl _
       simpa using this
     omega
   | last L _ h2 h3 _ => have := hall L h2; omega
   | fin h1 _ => exact h1.elim
structure Over (P : Program) (Wg : Nat) (N : Net) (Shun : Nat → Prop) (base : Nat) (gs : Array Goroutine) (w : World) (t : Trace) : Prop where
 after : ∃ m j f cl a, N.I m j f cl ∧ N.mact m = .wait ∧ (∀ i, i < j → N.act (f i) = .done ∧ N.Fin (f i) w) ∧ gs[0]? = some a ∧ N.After m a w ∧ gs.size = base + j ∧ ∀ b y, N.cel b y → w.cell? ⟨b, y, none⟩ = some (N.val j f b y)
 old : ∃ q : Nat → Nat, ∀ (i : Nat) (g : Goroutine), 0 < i → gs[i]? = some g → QuitsD P (q i) (Deaf t i) g
 above : ∀ i, gs.size ≤ i → Deaf t i = 0
 past : Past (fun b => Shun b ∨ b = Wg) t w.heap.size
 shun : ∀ b, (Shun b ∨ b = Wg) → b < w.heap.size
theorem main_acq (hN : NetOK P ty Wg N) (hb : 0 < base) {c : Cf N} {t : Trace} (hI : Inv P ty Wg N Shun base T0 c t) {a : Goroutine} (ha : c.gs[0]? = some a) (htag : c.tag = .acq) (h : MSit P ty Wg N c.o c.Given c.Fz c.tag c.Q c.f0 c.d0 a c.w) :
   Onward P ty Wg N Shun base T0 c t (runT P (crowd c.gs c.w c.sl) 0) ∨ ∃ gs' w' sl' u, runT P (crowd c.gs c.w c.sl) 0 = (.next (crowd gs' w' sl'), u) ∧ Over P Wg N Shun base gs' w' (t ++ u) := by
 obtain ⟨hst, hsm, hall⟩ := hI.mode.fin_of (by rw [htag]; trivial)
 generalize hf : c.f0 = f at h
 generalize hd : c.d0 = d at h
 generalize hQ : c.Q = Q at h
 generalize htg : c.tag = tg at h
 rw [htag] at htg
 subst htg
 cases h with
 | @acq m f g w hm h =>
   rcases goo_all (fun o w => Rel.refl w) (ag_ex c) h (fun o ho hs o' ho' m' => by
     obtain ⟨g', hgo, _⟩ := hs.2
     exact no_mk hgo (by simp) (by simp)) with hs | ⟨k, e, hs⟩
   · right
     obtain ⟨g', hgo, haf⟩ := (hs c.o (Agr.refl _ _)).2
     have hrun := runT_crowd_go (P := P) (sl := c.sl) ha (by simpa using hgo)
     have hsz0 : 0 < c.gs.size := by rw [hI.size]; omega
     have hothers : ∀ op ∈ MemOp.ofEvents 0 a.frame.fn a.frame.place #[mk (.acquire (stA Wg))], op.g = 0 := g_ofEvents
     have e1 : MemOp.ofEvents 0 a.frame.fn a.frame.place #[mk (.acquire (stA Wg))] = #[{ g := 0, fn := a.frame.fn, pos := a.frame.place, act := .mark (.acquire (stA Wg)) }] := by rw [ofEvents_eq]; simp [ofEvent_mk]
     have hk : ∀ i, i < c.j → N.act (c.D i).s = .done ∧ N.Fin (c.D i).s c.w ∧ ∃ g, c.gs[base + i]? = some g ∧ QuitsD P (c.D i).fuel (c.D i).deaf g := fun i hi => by
       obtain ⟨g, hg, hs⟩ := hI.kids i hi
       have h1 : (c.D i).stage = 1 := hall i hi
       generalize (c.D i).stage = st at hs h1
       generalize hfu : (c.D i).fuel = fu at hs ⊢
       generalize hde : (c.D i).deaf = de at hs ⊢
       cases hs with
       | quit hact hfin hq => exact ⟨hact, hfin c.o (Agr.refl _ _) c.w (Rel.refl _), g, hg, hq⟩
       | _ => omega
     have hdd : ∀ k, k ≠ 0 → Deaf (t ++ MemOp.ofEvents 0 a.frame.fn a.frame.place #[mk (.acquire (stA Wg))]) k = Deaf t k := fun k hk => Deaf_other t (fun e => hk e.symm) _ hothers
     have hD0 : Deaf t 0 = 0 := by rw [hI.deaf0, hd]
     have hhear : Deaf (t ++ MemOp.ofEvents 0 a.frame.fn a.frame.place #[mk (.acquire (stA Wg))]) 0 = 0 := by rw [Deaf_own, hD0]; rfl
     refine ⟨_, _, _, _, hrun, ⟨m, c.j, fun i => (c.D i).s, c.cl, g', (hI.prot m (by rw [hQ])).1, hm, fun i hi => ⟨(hk i hi).1, (hk i hi).2.1⟩, get_map_set_same _ _ _ _ hsz0, haf, by simp [hI.size], hI.cells⟩, ⟨fun i => if i < base then c.q i else (c.D (i - base)).fuel, fun i y hi0 hy => ?_⟩, fun i hi => ?_, ?_, fun b hb' => ?_⟩
     · rw [get_map_set _ _ _ _ _ (by omega)] at hy
       obtain ⟨z, hz, rfl⟩ := Option.map_eq_some_iff.1 hy
       rw [hdd i (by omega)]
       rcases Nat.lt_or_ge i base with hlt | hge
       · simp only [hlt, if_true]
         have hq := hI.old i z hi0 hlt hz
         rw [woken_quitsD hq]; exact hq
       · obtain ⟨k, rfl⟩ : ∃ k, i = base + k := ⟨i - base, by omega⟩
         have hkj : k < c.j := by have := (Array.getElem?_eq_some_iff.1 hz).1; rw [hI.size] at this; omega
         obtain ⟨_, _, z', hz', hq⟩ := hk k hkj
         rw [hz] at hz'
         obtain rfl := Option.some.inj hz'
         show QuitsD P (if base + k < base then c.q (base + k) else (c.D (base + k - base)).fuel) _ _
         have e2 : (if base + k < base then c.q (base + k) else (c.D (base + k - base)).fuel) = (c.D k).fuel := by rw [if_neg (by omega), Nat.add_sub_cancel_left]
         rw [e2, woken_quitsD hq, hI.deafK k hkj]
         exact hq
     · have hi' : base + c.j ≤ i := by simpa [hI.size] using hi
       rw [hdd i (by omega)]; exact hI.above i hi'
     · have htr : Tr Wg N.AB Shun c.o c.w.heap.size c.Given c.Fz base c.j (fun i => (c.D i).kg) T0 (Nc c.w) (t ++ MemOp.ofEvents 0 a.frame.fn a.frame.place #[mk (.acquire (stA Wg))]) :=
         hI.tr.appN (fun op hop => by rw [e1] at hop; simp at hop; subst hop; rfl) (fun op hop => by rw [e1] at hop; simp at hop; subst hop; simp)
       have hlast : (t ++ MemOp.ofEvents 0 a.frame.fn a.frame.place #[mk (.acquire (stA Wg))])[t.size]? = some { g := 0, fn := a.frame.fn, pos := a.frame.place, act := .mark (.acquire (stA Wg)) } := by rw [e1]; simp
       refine htr.past (q := t.size) (by rw [act?_of hlast]) (by simp [Trace.g?, hlast]) ⟨0, by simp [Trace.g?, hlast], by rw [deaf_old (Nat.le_refl _)]; exact hD0⟩ hhear fun k hkj => ?_
       have hkr := hI.rel k hkj (by have : (c.D k).stage = 1 := hall k hkj; omega)
       obtain ⟨r, h0, h1, _⟩ := hkr
       obtain ⟨r', h0', h1', h2', h3'⟩ := (hI.rel k hkj (by have : (c.D k).stage = 1 := hall k hkj; omega)).app (u := MemOp.ofEvents 0 a.frame.fn a.frame.place #[mk (.acquire (stA Wg))]) (fun op hop e => by rw [hothers op hop] at e; omega)
       refine ⟨r', h0', ?_, h2', h3'⟩
       rw [e1] at h1'
       simp at h1'
       rcases Nat.lt_or_ge r' t.size with x | x
       · exact x
       · exfalso
         obtain rfl : r' = t.size := by omega
         have := h2'.g
         simp [Trace.g?, hlast] at this
         omega
     · rcases hb' with hs | rfl
       · exact (hI.gh.shun b hs).1
       · exact hI.gh.wg.1
   · left
     refine main_plain hN hb hI ha (m := k) (Stop := fun o' => AtAcq P Wg N m) (tag' := .acq) (f' := k) hs (by simp) htag.symm (fun o₁ a' w' hh => ?_) (by omega)
     rw [hQ, hd]
     exact .acq hm hh
theorem Inv.at {c : Cf N} {t : Trace} (hI : Inv P ty Wg N Shun base T0 c t) (d : Nat) (sl' : Option (Nat × Nat)) : Inv P ty Wg N Shun base T0 { c with w := c.w.at d, sl := sl' } t := by
 obtain ⟨a, ha, hma⟩ := hI.main
 exact ⟨hI.size, ⟨a, ha, hma.rely (Rel.at _ d) (Agr.refl _ _)⟩, fun i hi => let ⟨g, hg, hs⟩ := hI.kids i hi; ⟨g, hg, hs.rely (Rel.at _ d) (Agr.refl _ _)⟩, hI.old, hI.above, hI.deafK, hI.deaf0, hI.gh, hI.tr, hI.chan, hI.wg, hI.mode, hI.rel, hI.prot, hI.ex, hI.t0, hI.pOpen, hI.pKK, hI.pMK, hI.cells⟩
theorem net_step (hN : NetOK P ty Wg N) (hb : 0 < base) {c : Cf N} {t : Trace} (hI : Inv P ty Wg N Shun base T0 c t) :
   Onward P ty Wg N Shun base T0 c t (stepT P (crowd c.gs c.w c.sl)) ∨ ∃ gs' w' sl' u, stepT P (crowd c.gs c.w c.sl) = (.next (crowd gs' w' sl'), u) ∧ Over P Wg N Shun base gs' w' (t ++ u) := by
 have haw : ∀ g ∈ c.gs, awake g := by
   intro g hg
   obtain ⟨i, hi, rfl⟩ := Array.mem_iff_getElem.1 hg
   have hgi : c.gs[i]? = some c.gs[i] := Array.getElem?_eq_getElem hi
   rcases Nat.eq_zero_or_pos i with rfl | hpos
   · obtain ⟨a, ha, hma⟩ := hI.main
     rw [hgi] at ha
     obtain e := Option.some.inj ha
     rw [e]
     rcases hma.status hN with ⟨x, _⟩ | ⟨x, _⟩
     · exact awake_of (.inl x)
     · exact awake_of (.inr (.inl x))
   · rcases Nat.lt_or_ge i base with hlt | hge
     · exact awake_of ((hI.old i _ hpos hlt hgi).status.elim .inl fun x => .inr (.inr x))
     · obtain ⟨k, rfl⟩ : ∃ k, i = base + k := ⟨i - base, by omega⟩
       have hk : k < c.j := by rw [hI.size] at hi; omega
       obtain ⟨z, hz, hs⟩ := hI.kids k hk
       rw [hgi] at hz
       obtain e := Option.some.inj hz
       rw [e]
       rcases hs.status hN with ⟨x, _⟩ | ⟨x, _⟩ | ⟨x, _⟩
       · exact awake_of (.inl x)
       · exact awake_of (.inr (.inl x))
       · exact awake_of (.inr (.inr x))
 obtain ⟨i, g, d, sl', hi, hrun, hst⟩ := crowd_pick (P := P) (w := c.w) (sl := c.sl) haw (some_runs hN hI)
 have hI' := hI.at d sl'
 have conv : ∀ r, Onward P ty Wg N Shun base T0 { c with w := c.w.at d, sl := sl' } t r → Onward P ty Wg N Shun base T0 c t r := fun r ⟨c', h1, h2, h3⟩ => ⟨c', h1, h2, h3⟩
 rw [hst]
 rcases Nat.eq_zero_or_pos i with rfl | hpos
 · obtain ⟨a, ha, hma⟩ := hI'.main
   have hag : a = g := by
     have ha' : c.gs[0]? = some a := ha
     rw [hi] at ha'
     exact (Option.some.inj ha').symm
   subst hag
   have hne : c.tag ≠ .pk ∧ c.tag ≠ .blk := by
     rcases hma.status hN with ⟨_, x⟩ | ⟨x, _⟩
     · exact x
     · rw [hrun] at x; cases x
   cases htag : c.tag with
   | run => exact .inl (conv _ (main_run hN hb hI' ha htag hma))
   | pk => exact absurd htag hne.1
   | blk => exact absurd htag hne.2
   | a1 => exact .inl (conv _ (main_a1 hN hb hI' ha htag hma))
   | ke => exact .inl (conv _ (main_ke hN hb hI' ha htag hma))
   | go => exact .inl (conv _ (main_go hN hb hI' ha htag hma))
   | anch =>
     left
     obtain ⟨hM1, hmd⟩ : MSit P ty Wg N c.o c.Given c.Fz .w1 c.Q (N.fuel + c.f0) c.d0 a (c.w.at d) ∧ Mode c.j (fun k => (c.D k).stage) .w1 c.st c.sm := by
       have hma2 : MSit P ty Wg N c.o c.Given c.Fz c.tag c.Q c.f0 c.d0 a (c.w.at d) := hma
       have hmd := hI.mode
       rw [htag] at hma2 hmd
       refine ⟨?_, ?_⟩
       · generalize c.Q = Q at hma2 ⊢
         generalize c.f0 = f at hma2 ⊢
         generalize c.d0 = d0 at hma2 ⊢
         cases hma2 with
         | anch hm h => exact .w1 hm fun o' ho => anch_w1 hN (h o' ho)
       · generalize c.st = st at hmd ⊢
         generalize c.sm = sm at hmd ⊢
         cases hmd with
         | opn h1 h2 h3 => exact Mode.opn (tag := .w1) trivial h2 (fun vs hvs => by cases hvs)
         | reg h1 _ _ => exact h1.elim
         | last L h1 _ _ _ => exact h1.elim
         | fin h1 _ => exact h1.elim
     have hI1 : Inv P ty Wg N Shun base T0 { c with w := c.w.at d, sl := sl', tag := .w1, f0 := N.fuel + c.f0 } t :=
       ⟨hI'.size, ⟨a, ha, hM1⟩, hI'.kids, hI'.old, hI'.above, hI'.deafK, hI'.deaf0, hI'.gh, hI'.tr, hI'.chan, hI'.wg, hmd, hI'.rel, hI'.prot, hI'.ex, hI'.t0, hI'.pOpen, hI'.pKK, (fun h => by cases h), hI'.cells⟩
     obtain ⟨c', h1, h2, h3⟩ := main_w1 hN hb hI1 ha rfl hM1
     refine ⟨c', h1, .inl ?_, h3⟩
     have hlt : mu1 { c with w := c.w.at d, sl := sl', tag := .w1, f0 := N.fuel + c.f0 } < mu1 c := by simp only [mu1, phi, htag]; omega
     rcases h2 with h2 | ⟨h2, _⟩ <;> omega
   | w1 => exact .inl (conv _ (main_w1 hN hb hI' ha htag hma))
   | w2 vs => exact .inl (conv _ (main_w2 hN hb hI' ha htag hma))
   | w3 => exact .inl (conv _ (main_w3 hN hb hI' ha htag hma))
   | w4 => exact .inl (conv _ (main_w4 hN hb hI' ha htag hma))
   | kw => exact .inl (conv _ (main_kw hN hb hI' ha htag hma))
   | acq =>
     rcases main_acq hN hb hI' ha htag hma with x | x
     · exact .inl (conv _ x)
     · exact .inr x
 · rcases Nat.lt_or_ge i base with hlt | hge
   · exact .inl (conv _ (oldStep hN hI' hpos hlt hi hrun))
   · obtain ⟨k, rfl⟩ : ∃ k, i = base + k := ⟨i - base, by omega⟩
     have hk : k < c.j := by have := (Array.getElem?_eq_some_iff.1 hi).1; rw [hI.size] at this; omega
     exact .inl (conv _ (kid_step hN hb hI' hk hi hrun))
theorem less_wf : WellFounded (Less (N := N) base) := by
 have h : ∀ n m (c : Cf N), mu1 c = n → mu2 base c = m → Acc (Less base) c := by
   intro n
   induction n using Nat.strongRecOn with
   | _ n ihn =>
     intro m
     induction m using Nat.strongRecOn with
     | _ m ihm =>
       intro c h1 h2
       refine ⟨c, fun c' hl => ?_⟩
       rcases hl with hl | ⟨hl1, hl2⟩
       · exact ihn _ (by omega) _ c' rfl rfl
       · exact ihm _ (by omega) c' (by omega) rfl
 exact ⟨fun c => h _ _ c rfl rfl⟩
theorem net_runs (hN : NetOK P ty Wg N) (hb : 0 < base) (c : Cf N) : ∀ t, Inv P ty Wg N Shun base T0 c t → ∃ k gs' w' sl' t', runNT P k (crowd c.gs c.w c.sl) t = (.next (crowd gs' w' sl'), t') ∧ Over P Wg N Shun base gs' w' t' := by
 induction c using (less_wf (N := N) (base := base)).induction with
 | _ c ih =>
   intro t hI
   rcases net_step hN hb hI with ⟨c', h1, h2, h3⟩ | ⟨gs', w', sl', u, h1, h2⟩
   · obtain ⟨k, gs', w', sl', t', h4, h5⟩ := ih c' h2 _ h3
     refine ⟨k + 1, gs', w', sl', t', ?_, h5⟩
     have e : stepT P (crowd c.gs c.w c.sl) = (.next (crowd c'.gs c'.w c'.sl), (stepT P (crowd c.gs c.w c.sl)).2) := by rw [← h1]
     rw [runNT, e]
     exact h4
   · exact ⟨1, gs', w', sl', t ++ u, by simp only [runNT, h1], h2⟩
structure Rest (P : Program) (Shun : Nat → Prop) (gs : Array Goroutine) (w : World) (t : Trace) : Prop where
 old : ∃ q : Nat → Nat, ∀ (i : Nat) (g : Goroutine), 0 < i → gs[i]? = some g → QuitsD P (q i) (Deaf t i) g
 above : ∀ i, gs.size ≤ i → Deaf t i = 0
 past : Past Shun t w.heap.size
 shun : ∀ b, Shun b → b < w.heap.size
theorem phase (hN : NetOK P ty Wg N) {gs : Array Goroutine} {a : Goroutine} {w : World} {sl : Option (Nat × Nat)} {t : Trace} (h0 : gs[0]? = some a) (hR : Rest P Shun gs w t) (hns : ∀ b, (b = Wg ∨ N.AB b) → ¬ Shun b) (hwg : WgAt ty Wg w 0 0) (hne : ∀ b, N.AB b → b ≠ Wg) {G₀ : Cells} (hG₀ : ∀ b x, G₀ b x ↔ b < w.heap.size ∧ (Shun b ∨ b = Wg ∨ N.AB b))
   {Q : N.M → Prop} {B f : Nat} {f0 : Nat → N.S} (hQ : ∃ m, Q m) (hI : ∀ m, Q m → N.I m 0 f0 (fun _ => none) ∧ N.muM m ≤ B) (hcel : ∀ b y, N.cel b y → w.cell? ⟨b, y, none⟩ = some (N.val 0 f0 b y))
   (hM : ∀ own, (∀ b, b < w.heap.size → own b) → MGoo P ty Wg own G₀ (fun _ => False) (fun g w' => ∃ m, Q m ∧ N.Main own m G₀ (fun _ => False) g w') f a w) :
   ∃ k gs' w' sl' t' a', runNT P k (crowd gs w sl) t = (.next (crowd gs' w' sl'), t') ∧ gs'[0]? = some a' ∧ Rest P (fun b => Shun b ∨ b = Wg) gs' w' t' ∧
     ∃ m j fs cl, N.I m j fs cl ∧ N.mact m = .wait ∧ (∀ i, i < j → N.act (fs i) = .done ∧ N.Fin (fs i) w') ∧ N.After m a' w' ∧ ∀ b y, N.cel b y → w'.cell? ⟨b, y, none⟩ = some (N.val j fs b y) := by
 obtain rfl : G₀ = fun b _ => b < w.heap.size ∧ (Shun b ∨ b = Wg ∨ N.AB b) := by funext b x; exact propext (hG₀ b x)
 obtain ⟨q, hold⟩ := hR.old
 have hlt : 0 < gs.size := (Array.getElem?_eq_some_iff.1 h0).1
 have hwlt : Wg < w.heap.size := (Array.getElem?_eq_some_iff.1 hwg).1
 let c : Cf N := { gs := gs, w := w, sl := sl, o := fun _ => 0, Given := (fun b _ => b < w.heap.size ∧ (Shun b ∨ b = Wg ∨ N.AB b)), Fz := (fun _ => False), cl := (fun _ => none), j := 0, D := (fun i => ⟨f0 i, ⟨fun _ _ => False, fun _ => False⟩, 8, 0, 0⟩), tag := .run, Q := Q, B := B, f0 := f + 1, d0 := 0, st := 0, sm := 0, q := q }
 have hInv : Inv P ty Wg N Shun gs.size t.size c t := by
   refine ⟨rfl, ⟨a, h0, .run fun o' ho => hM _ fun b hb => ho b hb⟩, (fun i hi => absurd hi (Nat.not_lt_zero _)), (fun i g hi0 _ hg => hold i g hi0 hg), hR.above, (fun i hi => absurd hi (Nat.not_lt_zero _)), hR.past.hears, ?_, Tr.init hR.past hns, (fun x b hx => by cases hx), hwg, ?_, (fun i hi => absurd hi (Nat.not_lt_zero _)), (fun m hm => hI m hm), hQ, Nat.le_refl _,
     (fun i hi => absurd hi (Nat.not_lt_zero _)), (fun i k x v hi => absurd hi (Nat.not_lt_zero _)), (fun h => by cases h), hcel⟩
   · have := Gh.init (AB := N.AB) (D := fun i => (c.D i).kg) hR.shun (fun b hb => hb.elim (fun e => e ▸ hwlt) fun ⟨y, hy⟩ => (by
       have h := hcel b y hy
       simp only [World.cell?] at h
       cases hh : w.heap[b]? with
       | none => rw [hh] at h; cases h
       | some o => exact (Array.getElem?_eq_some_iff.1 hh).1)) hns hne
     exact ⟨this.wg, this.ab, this.shun, this.fz, (fun x hx => absurd rfl hx), this.given, (fun i hi => absurd hi (Nat.not_lt_zero _)), (fun i hi => absurd hi (Nat.not_lt_zero _)), (fun i _ hi => absurd hi (Nat.not_lt_zero _)), this.mine⟩
   · have := Mode.opn (tag := .run) (j := 0) (sg := fun i => (c.D i).stage) trivial (fun i hi => absurd hi (Nat.not_lt_zero _)) (fun vs hvs => by cases hvs)
     simpa [Vc, sumTo, pend] using this
 obtain ⟨k, gs', w', sl', t', hr, ho⟩ := net_runs hN hlt c t hInv
 obtain ⟨m, j, fs, cl, a', h1, h2, h3, h4, h5, h6, h7⟩ := ho.after
 exact ⟨k, gs', w', sl', t', a', hr, h4, ⟨ho.old, ho.above, ho.past, ho.shun⟩, m, j, fs, cl, h1, h2, h3, h5, h7⟩
end
end Go.Proofs.Ytblpmdolclalnaa
namespace Go.Proofs.Ytblpmdolclalnaa
open Go.Conc
open Go.ConcN (sumTo upd upd_same upd_ne sumTo_upd)
def Reach (P : Program) (m : Machine) (t : Trace) (m' : Machine) (t' : Trace) : Prop := ∃ k, runNT P k m t = (.next m', t')
theorem runNT_add {P : Program} : ∀ {k : Nat} {m m' : Machine} {t t' : Trace} (n : Nat), runNT P k m t = (.next m', t') → runNT P (k + n) m t = runNT P n m' t'
 | 0, m, m', t, t', n, h => by
   simp only [runNT, Prod.mk.injEq, Stepped.next.injEq] at h
   obtain ⟨rfl, rfl⟩ := h
   rw [Nat.zero_add]
 | k + 1, m, m', t, t', n, h => by
   rw [Nat.succ_add]
   simp only [runNT] at h ⊢
   cases hs : stepT P m with
   | mk s ops =>
     rw [hs] at h
     cases s with
     | next m₁ => exact runNT_add n h
     | ended o w => simp at h
theorem Reach.refl {P : Program} (m : Machine) (t : Trace) : Reach P m t m t := ⟨0, rfl⟩
theorem Reach.trans {P : Program} {m m' m'' : Machine} {t t' t'' : Trace} (h : Reach P m t m' t') (h' : Reach P m' t' m'' t'') : Reach P m t m'' t'' := by
 obtain ⟨k, hk⟩ := h
 obtain ⟨k', hk'⟩ := h'
 exact ⟨k + k', by rw [runNT_add k' hk]; exact hk'⟩
def Ends (P : Program) (Post : Value → World → Prop) (m : Machine) (t : Trace) : Prop :=
 ∃ N last o w' t', runNT P (N + 1) m t = (.ended o w', t') ∧ runN P N m = .next last ∧ step P last = .ended o w' ∧ Go.Conc.Good P Post last o w' t'
theorem Ends.of_reach {P : Program} {Post : Value → World → Prop} {m m' : Machine} {t t' : Trace} (h : Reach P m t m' t') (h' : Ends P Post m' t') : Ends P Post m t := by
 obtain ⟨k, hk⟩ := h
 obtain ⟨N, last, o, w', t'', h1, h2, h3, h4⟩ := h'
 refine ⟨k + N, last, o, w', t'', by rw [Nat.add_assoc, runNT_add _ hk]; exact h1, ?_, h3, h4⟩
 have e1 := runNT_add N hk
 rw [← runNT_fst _ _ _ t, e1, runNT_fst]
 exact h2
def EvS (Shun : Nat → Prop) (n : Nat) (e : Event) : Prop := (∃ (a : Addr) (wr sy : Bool), e = ⟨.cell a, wr, sy⟩ ∧ ¬ Shun a.block ∧ a.block < n) ∨ (∃ (c : Nat) (wr : Bool), e = ⟨.obj c, wr, false⟩ ∧ c < n) ∨ e = ⟨.mark .noRoom, false, true⟩
def SD (Shun : Nat → Prop) (w w' : World) (es : Array Event) : Prop := w.heap.size ≤ w'.heap.size ∧ ∀ e ∈ es, EvS Shun w'.heap.size e
section
variable {P : Program} {Shun : Nat → Prop}
theorem Past.more {t : Trace} {n n' : Nat} (h : Past Shun t n) (hn : n ≤ n') : Past Shun t n' := ⟨h.clean, h.known, h.over, h.hears, fun i a ad ha hl => Nat.lt_of_lt_of_le (h.seen i a ad ha hl) hn, fun i a c ha hl => Nat.lt_of_lt_of_le (h.seenO i a c ha hl) hn⟩
theorem EvS.still {n : Nat} {es : Array Event} (h : ∀ e ∈ es, EvS Shun n e) : ∀ e ∈ es, e.loc ≠ .mark .disable ∧ e.loc ≠ .mark .enable := fun e he => by
 rcases h e he with ⟨a, wr, sy, rfl, _⟩ | ⟨c, wr, rfl, _⟩ | rfl <;> simp
theorem Past.own {t : Trace} {n n' : Nat} (h : Past Shun t n) (hn : n ≤ n') {fn : FuncId} {pos : String} {es : Array Event} (hes : ∀ e ∈ es, EvS Shun n' e) : Past Shun (t ++ MemOp.ofEvents 0 fn pos es) n' := by
 have hu : ∀ op ∈ MemOp.ofEvents 0 fn pos es, op.g = 0 := g_ofEvents
 have ht : ∀ op ∈ MemOp.ofEvents 0 fn pos es, ∀ b, op.act.touch? = some b → (∃ a : Addr, b.loc = .cell a ∧ ¬ Shun a.block ∧ a.block < n') ∨ ∃ c, b.loc = .obj c ∧ c < n' := fun op hop b hb => by
   obtain ⟨e, he, rfl⟩ := Go.Conc.mem_ofEvents hop
   rcases hes e he with ⟨a, wr, sy, rfl, h1, h2⟩ | ⟨c, wr, rfl, h1⟩ | rfl
   · have hb' := Option.some.inj hb
     subst hb'
     exact .inl ⟨a, rfl, h1, h2⟩
   · simp only [MemAct.ofEvent, MemAct.touch?, Option.some.injEq] at hb
     subst hb
     exact .inr ⟨c, rfl, h1⟩
   · simp [MemAct.ofEvent, MemAct.touch?] at hb
 refine ⟨fun said => noRace_append (h.clean said) hu fun i a ha op hop b hb hc => ?_, fun i a ha hm => ?_, fun i g hg hne hc => ?_, ?_, fun i a ad ha hl => ?_, fun i a c ha hl => ?_⟩
 · rcases ht op hop b hb with ⟨ad, hl, hs, _⟩ | ⟨c, hl, _⟩
   · have hal : a.loc = .cell ad := hc.1.trans hl
     rcases h.known i a ha (by rw [hal]; rfl) with x | ⟨⟨ad', hl', hs'⟩, _⟩
     · exact x
     · rw [hal] at hl'; cases hl'; exact absurd hs' hs
   · have hal : a.loc = .obj c := hc.1.trans hl
     rcases h.known i a ha (by rw [hal]; rfl) with x | ⟨⟨ad', hl', hs'⟩, _⟩
     · exact x
     · rw [hal] at hl'; cases hl'
 · rcases touchAt_app ha with ⟨_, ha'⟩ | ⟨_, op, hop, hio, _⟩
   · exact (h.known i a ha' hm).imp (·.app _) id
   · exact .inl (knows_new hu hio hop)
 · rcases Nat.lt_or_ge i t.size with hi | hi
   · rw [g?_old hi] at hg
     obtain ⟨q, hq, hh⟩ := h.over i g hg hne ((counts_old hi).1 hc)
     have hql : q < t.size := by
       unfold Trace.g? at hq
       obtain ⟨z, hz, _⟩ := Option.map_eq_some_iff.1 hq
       exact lt_size_of_getElem? hz
     exact ⟨q, by rw [g?_old hql]; exact hq, hb_app _ hh⟩
   · obtain ⟨op, ho, hog⟩ := Option.map_eq_some_iff.1 hg
     rcases getElem?_append_cases ho with ⟨hlt, _⟩ | ⟨_, hm⟩
     · omega
     · rw [hu op hm] at hog; exact absurd hog.symm hne
 · rw [Deaf_own, h.hears]; exact deafBehind_still (EvS.still hes) 0
 · rcases touchAt_app ha with ⟨_, ha'⟩ | ⟨_, op, hop, _, hoa⟩
   · exact Nat.lt_of_lt_of_le (h.seen i a ad ha' hl) hn
   · rcases ht op hop a hoa with ⟨ad', hl', _, hlt⟩ | ⟨c, hl', _⟩
     · rw [hl] at hl'; cases hl'; exact hlt
     · rw [hl] at hl'; cases hl'
 · rcases touchAt_app ha with ⟨_, ha'⟩ | ⟨_, op, hop, _, hoa⟩
   · exact Nat.lt_of_lt_of_le (h.seenO i a c ha' hl) hn
   · rcases ht op hop a hoa with ⟨ad', hl', _, hlt⟩ | ⟨c', hl', hlt⟩
     · rw [hl] at hl'; cases hl'
     · rw [hl] at hl'; cases hl'; exact hlt
theorem Past.mute {t : Trace} {n g : Nat} (h : Past Shun t n) (hg : g ≠ 0) {fn : FuncId} {pos : String} {es : Array Event} (hm : ∀ e ∈ es, Event.mute e = true) : Past Shun (t ++ MemOp.ofEvents g fn pos es) n := by
 have hu : ∀ op ∈ MemOp.ofEvents g fn pos es, op.g = g := g_ofEvents
 have ht : ∀ op ∈ MemOp.ofEvents g fn pos es, op.act.touch? = none := fun op hop => by
   obtain ⟨e, he, rfl⟩ := Go.Conc.mem_ofEvents hop
   exact touch_mute (hm e he)
 refine ⟨fun said => noRace_append (h.clean said) hu fun i a ha op hop b hb hc => (by rw [ht op hop] at hb; cases hb), fun i a ha hmm => (h.known i a (old_touch ht ha) hmm).imp (·.app _) id, handedOver_app h.over fun op hop => .inr (ht op hop), ?_, fun i a ad ha hl => h.seen i a ad (old_touch ht ha) hl, fun i a c ha hl => h.seenO i a c (old_touch ht ha) hl⟩
 rw [Deaf_other t hg _ hu]; exact h.hears
theorem rest_own {gs : Array Goroutine} {a a' : Goroutine} {w w' : World} {t : Trace} {es : Array Event} (hR : Rest P Shun gs w t) (hlt : 0 < gs.size) (hd : SD Shun w w' es) :
   Rest P Shun ((gs.map (woken P a a' w')).setIfInBounds 0 a') w' (t ++ MemOp.ofEvents 0 a.frame.fn a.frame.place es) := by
 obtain ⟨q, hq⟩ := hR.old
 have hu : ∀ op ∈ MemOp.ofEvents 0 a.frame.fn a.frame.place es, op.g = 0 := g_ofEvents
 refine ⟨⟨q, fun i g hi hg => ?_⟩, fun i hi => ?_, hR.past.own hd.1 hd.2, fun b hb => Nat.lt_of_lt_of_le (hR.shun b hb) hd.1⟩
 · rw [get_map_set _ _ _ _ _ (by omega)] at hg
   obtain ⟨z, hz, rfl⟩ := Option.map_eq_some_iff.1 hg
   have := hq i z hi hz
   rw [woken_quitsD this, Deaf_other t (by omega) _ hu]
   exact this
 · rw [Deaf_other t (by simp at hi; omega) _ hu]; exact hR.above i (by simpa using hi)
theorem rest_slip {gs : Array Goroutine} {g g' : Goroutine} {w : World} {t : Trace} {es : Array Event} {q : Nat → Nat} {i k : Nat} (hq : ∀ (i : Nat) (g : Goroutine), 0 < i → gs[i]? = some g → QuitsD P (q i) (Deaf t i) g) (hR : Rest P Shun gs w t) (hi0 : 0 < i) (hi : gs[i]? = some g)
   (hm : ∀ e ∈ es, Event.mute e = true) (hq' : QuitsD P k (deafBehind (Deaf t i) es) g') :
   (∀ (j : Nat) (x : Goroutine), 0 < j → ((gs.map (woken P g g' w)).setIfInBounds i g')[j]? = some x → QuitsD P (upd q i k j) (Deaf (t ++ MemOp.ofEvents i g.frame.fn g.frame.place es) j) x) ∧ Rest P Shun ((gs.map (woken P g g' w)).setIfInBounds i g') w (t ++ MemOp.ofEvents i g.frame.fn g.frame.place es) := by
 have hlt : i < gs.size := (Array.getElem?_eq_some_iff.1 hi).1
 have hu : ∀ op ∈ MemOp.ofEvents i g.frame.fn g.frame.place es, op.g = i := g_ofEvents
 have key : ∀ (j : Nat) (x : Goroutine), 0 < j → ((gs.map (woken P g g' w)).setIfInBounds i g')[j]? = some x → QuitsD P (upd q i k j) (Deaf (t ++ MemOp.ofEvents i g.frame.fn g.frame.place es) j) x := fun j x hj hx => by
   by_cases hji : j = i
   · subst hji
     rw [get_map_set_same _ _ _ _ hlt] at hx
     obtain rfl := Option.some.inj hx
     rw [upd_same, Deaf_own]
     exact hq'
   · rw [get_map_set _ _ _ _ _ hji] at hx
     obtain ⟨z, hz, rfl⟩ := Option.map_eq_some_iff.1 hx
     have := hq j z hj hz
     rw [woken_quitsD this, upd_ne _ _ hji, Deaf_other t (fun e => hji e.symm) _ hu]
     exact this
 refine ⟨key, ⟨_, key⟩, fun j hj => ?_, hR.past.mute (by omega) hm, hR.shun⟩
 rw [Deaf_other t (by simp at hj; omega) _ hu]; exact hR.above j (by simpa using hj)
theorem Rest.at {gs : Array Goroutine} {w : World} {t : Trace} (h : Rest P Shun gs w t) (d : Nat) : Rest P Shun gs (w.at d) t := ⟨h.old, h.above, h.past, h.shun⟩
theorem rest_awake {gs : Array Goroutine} {w : World} {t : Trace} {a : Goroutine} (hR : Rest P Shun gs w t) (h0 : gs[0]? = some a) (hr : a.status = .running) : ∀ g ∈ gs, awake g := by
 obtain ⟨q, hq⟩ := hR.old
 intro g hg
 obtain ⟨i, hi, rfl⟩ := Array.mem_iff_getElem.1 hg
 rcases Nat.eq_zero_or_pos i with rfl | hpos
 · have : gs[0] = a := by simpa [Array.getElem?_eq_getElem hi] using h0
   rw [this]; exact awake_of (.inl hr)
 · exact awake_of ((hq i _ hpos (Array.getElem?_eq_getElem hi)).status.elim .inl fun x => .inr (.inr x))
theorem seq_walk {Stop : Goroutine → World → Prop} : ∀ (M n : Nat) (gs : Array Goroutine) (a : Goroutine) (w : World) (sl : Option (Nat × Nat)) (t : Trace) (q : Nat → Nat), n + sumTo gs.size q ≤ M → gs[0]? = some a → (∀ (i : Nat) (g : Goroutine), 0 < i → gs[i]? = some g → QuitsD P (q i) (Deaf t i) g) → Rest P Shun gs w t →
   Goes P true AtRel (SD Shun) Stop n a w → ∃ gs' a' w' sl' t', Reach P (crowd gs w sl) t (crowd gs' w' sl') t' ∧ gs'[0]? = some a' ∧ Stop a' w' ∧ Rest P Shun gs' w' t' := by
 intro M
 induction M with
 | zero =>
   intro n gs a w sl t q hM h0 hq hR hG
   obtain rfl : n = 0 := by omega
   exact ⟨gs, a, w, sl, t, .refl _ _, h0, hG w (atRel_refl w), hR⟩
 | succ M ih =>
   intro n gs a w sl t q hM h0 hq hR hG
   cases n with
   | zero => exact ⟨gs, a, w, sl, t, .refl _ _, h0, hG w (atRel_refl w), hR⟩
   | succ n =>
     rcases hG with hstop | ⟨hrun, hstep⟩
     · exact ⟨gs, a, w, sl, t, .refl _ _, h0, hstop w (atRel_refl w), hR⟩
     have hlt : 0 < gs.size := (Array.getElem?_eq_some_iff.1 h0).1
     obtain ⟨i, g, d, sl', hi, hg, hst⟩ := crowd_pick (P := P) (w := w) (sl := sl) (rest_awake hR h0 hrun) ⟨0, a, h0, hrun⟩
     rcases Nat.eq_zero_or_pos i with rfl | hpos
     · obtain rfl : g = a := by rw [h0] at hi; exact (Option.some.inj hi).symm
       obtain ⟨a', w', es, hgo, hd, hG'⟩ := goes_elim' (hstep (w.at d) ⟨d, rfl⟩)
       have hrunT := runT_crowd_go (P := P) (sl := sl') (i := 0) hi (show stepG P (0 == 0) g (w.at d) = _ from hgo)
       have hR' := rest_own (a := g) (a' := a') (hR.at d) hlt hd
       have hu : ∀ op ∈ MemOp.ofEvents 0 g.frame.fn g.frame.place es, op.g = 0 := g_ofEvents
       obtain ⟨gs', a'', w'', sl'', t', hr, h0', hS, hR''⟩ := ih n _ a' w' sl' _ q (by simp; omega) (get_map_set_same _ _ _ _ hlt) (fun j x hj hx => by
         rw [get_map_set _ _ _ _ _ (by omega)] at hx
         obtain ⟨z, hz, rfl⟩ := Option.map_eq_some_iff.1 hx
         have := hq j z hj hz
         rw [woken_quitsD this, Deaf_other t (by omega) _ hu]
         exact this) hR' hG'
       refine ⟨gs', a'', w'', sl'', t', Reach.trans ⟨1, ?_⟩ hr, h0', hS, hR''⟩
       simp only [runNT, hst, hrunT]
     · have hqi := hq i g hpos hi
       cases hqn : q i with
       | zero => rw [hqn] at hqi; rw [hqi.1] at hg; cases hg
       | succ k =>
         rw [hqn] at hqi
         rcases hqi with ⟨hf, _⟩ | ⟨_, g', es, hm, hstp, hq'⟩
         · rw [hf] at hg; cases hg
         have hi0 : (i == 0) = false := by simp; omega
         have hlti : i < gs.size := (Array.getElem?_eq_some_iff.1 hi).1
         have hrunT := runT_crowd_go (P := P) (sl := sl') (i := i) hi (by rw [hi0]; exact hstp (w.at d))
         have hsum : sumTo gs.size (upd q i k) + (k + 1) = sumTo gs.size q + k := by
           have := sumTo_upd q k id hlti
           simpa [hqn] using this
         obtain ⟨hq2, hR'⟩ := rest_slip (g' := g') hq (hR.at d) hpos hi hm hq'
         obtain ⟨gs', a'', w'', sl'', t', hr, h0', hS, hR''⟩ := ih (n + 1) _ a (w.at d) sl' _ (upd q i k) (by simp; omega) (by
           rw [get_map_set _ _ _ _ _ (by omega), h0]
           simp [woken_run hrun]) hq2 hR' (Goes.rely atRel_trans (.inr ⟨hrun, hstep⟩) ⟨d, rfl⟩)
         refine ⟨gs', a'', w'', sl'', t', Reach.trans ⟨1, ?_⟩ hr, h0', hS, hR''⟩
         simp only [runNT, hst, hrunT]
def AtRet (P : Program) (Shun : Nat → Prop) (Post : Value → World → Prop) (g : Goroutine) (w : World) : Prop :=
 g.status = .running ∧ ∃ v es, stepG P true g w = .ended (.done v) w es ∧ (∀ e ∈ es, EvS Shun w.heap.size e) ∧ Post v w
theorem seq_ends {Post : Value → World → Prop} : ∀ (M : Nat) (gs : Array Goroutine) (a : Goroutine) (w : World) (sl : Option (Nat × Nat)) (t : Trace) (q : Nat → Nat), sumTo gs.size q ≤ M → gs[0]? = some a → (∀ (i : Nat) (g : Goroutine), 0 < i → gs[i]? = some g → QuitsD P (q i) (Deaf t i) g) → Rest P Shun gs w t →
   (∀ d, AtRet P Shun Post a (w.at d)) → Ends P Post (crowd gs w sl) t := by
 intro M
 induction M with
 | zero =>
   intro gs a w sl t q hM h0 hq hR hA
   have hlt : 0 < gs.size := (Array.getElem?_eq_some_iff.1 h0).1
   obtain ⟨i, g, d, sl', hi, hg, hst⟩ := crowd_pick (P := P) (w := w) (sl := sl) (rest_awake hR h0 (hA 0).1) ⟨0, a, h0, (hA 0).1⟩
   rcases Nat.eq_zero_or_pos i with rfl | hpos
   · obtain rfl : g = a := by rw [h0] at hi; exact (Option.some.inj hi).symm
     obtain ⟨_, v, es, hend, hes, hpost⟩ := hA d
     have hrunT := runT_many_ended (P := P) (sl := sl') (i := 0) hi (show stepG P (0 == 0) g (w.at d) = _ from hend)
     have hP' := (hR.at d).past.own (Nat.le_refl _) (fn := g.frame.fn) (pos := g.frame.place) hes
     have hu : ∀ op ∈ MemOp.ofEvents 0 g.frame.fn g.frame.place es, op.g = 0 := g_ofEvents
     refine ⟨0, crowd gs w sl, _, _, _, by simp only [runNT, hst, hrunT], rfl, by simp only [step, hst, hrunT], v, rfl, hpost, hP'.clean, hP'.over, ⟨fun x hx => ?_, rfl⟩, fun j x hx hj => ?_⟩
     · obtain ⟨j, hj⟩ := List.mem_iff_getElem?.1 hx
       rw [List.getElem?_drop] at hj
       exact ⟨_, (hq (1 + j) x (by omega) (by simpa [crowd] using hj)).leaves⟩
     · have hqj := hq j x (by omega) hx
       refine ⟨q j, ?_⟩
       have e : (t ++ MemOp.ofEvents 0 g.frame.fn g.frame.place es).deaf j (t ++ MemOp.ofEvents 0 g.frame.fn g.frame.place es).size = Deaf t j := Deaf_other t (g := j) (g' := 0) (by omega) _ hu
       rw [e]
       exact hqj.hears _
   · have hqi := hq i g hpos hi
     have hlti : i < gs.size := (Array.getElem?_eq_some_iff.1 hi).1
     have : q i = 0 := by have := Go.ConcN.le_sumTo (f := q) hlti; omega
     rw [this] at hqi
     rw [hqi.1] at hg; cases hg
 | succ M ih =>
   intro gs a w sl t q hM h0 hq hR hA
   have hlt : 0 < gs.size := (Array.getElem?_eq_some_iff.1 h0).1
   obtain ⟨i, g, d, sl', hi, hg, hst⟩ := crowd_pick (P := P) (w := w) (sl := sl) (rest_awake hR h0 (hA 0).1) ⟨0, a, h0, (hA 0).1⟩
   rcases Nat.eq_zero_or_pos i with rfl | hpos
   · obtain rfl : g = a := by rw [h0] at hi; exact (Option.some.inj hi).symm
     obtain ⟨_, v, es, hend, hes, hpost⟩ := hA d
     have hrunT := runT_many_ended (P := P) (sl := sl') (i := 0) hi (show stepG P (0 == 0) g (w.at d) = _ from hend)
     have hP' := (hR.at d).past.own (Nat.le_refl _) (fn := g.frame.fn) (pos := g.frame.place) hes
     have hu : ∀ op ∈ MemOp.ofEvents 0 g.frame.fn g.frame.place es, op.g = 0 := g_ofEvents
     refine ⟨0, crowd gs w sl, _, _, _, by simp only [runNT, hst, hrunT], rfl, by simp only [step, hst, hrunT], v, rfl, hpost, hP'.clean, hP'.over, ⟨fun x hx => ?_, rfl⟩, fun j x hx hj => ?_⟩
     · obtain ⟨j, hj⟩ := List.mem_iff_getElem?.1 hx
       rw [List.getElem?_drop] at hj
       exact ⟨_, (hq (1 + j) x (by omega) (by simpa [crowd] using hj)).leaves⟩
     · have hqj := hq j x (by omega) hx
       refine ⟨q j, ?_⟩
       have e : (t ++ MemOp.ofEvents 0 g.frame.fn g.frame.place es).deaf j (t ++ MemOp.ofEvents 0 g.frame.fn g.frame.place es).size = Deaf t j := Deaf_other t (g := j) (g' := 0) (by omega) _ hu
       rw [e]
       exact hqj.hears _
   · have hqi := hq i g hpos hi
     cases hqn : q i with
     | zero => rw [hqn] at hqi; rw [hqi.1] at hg; cases hg
     | succ k =>
       rw [hqn] at hqi
       rcases hqi with ⟨hf, _⟩ | ⟨_, g', es, hm, hstp, hq'⟩
       · rw [hf] at hg; cases hg
       have hi0 : (i == 0) = false := by simp; omega
       have hlti : i < gs.size := (Array.getElem?_eq_some_iff.1 hi).1
       have hrunT := runT_crowd_go (P := P) (sl := sl') (i := i) hi (by rw [hi0]; exact hstp (w.at d))
       have hsum : sumTo gs.size (upd q i k) + (k + 1) = sumTo gs.size q + k := by
         have := sumTo_upd q k id hlti
         simpa [hqn] using this
       obtain ⟨hq2, hR'⟩ := rest_slip (g' := g') hq (hR.at d) hpos hi hm hq'
       refine Ends.of_reach ⟨1, by simp only [runNT, hst, hrunT]⟩ (ih _ a (w.at d) sl' _ (upd q i k) (by simp; omega) (by
         rw [get_map_set _ _ _ _ _ (by omega), h0]
         simp [woken_run (hA 0).1]) hq2 hR' fun d' => hA d')
theorem seq {Stop : Goroutine → World → Prop} {n : Nat} {gs : Array Goroutine} {a : Goroutine} {w : World} {sl : Option (Nat × Nat)} {t : Trace} (h0 : gs[0]? = some a) (hR : Rest P Shun gs w t) (hG : Goes P true AtRel (SD Shun) Stop n a w) :
   ∃ gs' a' w' sl' t', Reach P (crowd gs w sl) t (crowd gs' w' sl') t' ∧ gs'[0]? = some a' ∧ Stop a' w' ∧ Rest P Shun gs' w' t' := by
 obtain ⟨q, hq⟩ := hR.old
 exact seq_walk _ n gs a w sl t q (Nat.le_refl _) h0 hq hR hG
theorem seqEnd {Post : Value → World → Prop} {n : Nat} {gs : Array Goroutine} {a : Goroutine} {w : World} {sl : Option (Nat × Nat)} {t : Trace} (h0 : gs[0]? = some a) (hR : Rest P Shun gs w t) (hG : Goes P true AtRel (SD Shun) (fun g w => ∀ d, AtRet P Shun Post g (w.at d)) n a w) : Ends P Post (crowd gs w sl) t := by
 obtain ⟨gs', a', w', sl', t', hr, h0', hS, hR'⟩ := seq (sl := sl) h0 hR hG
 obtain ⟨q, hq⟩ := hR'.old
 exact Ends.of_reach hr (seq_ends _ gs' a' w' sl' t' q (Nat.le_refl _) h0' hq hR' hS)
theorem rest_start (P : Program) (a : Goroutine) (w : World) : Rest P (fun _ => False) #[a] w #[] :=
 ⟨⟨fun _ => 0, fun i g hi hg => by
   have : i < 1 := by simpa using (Array.getElem?_eq_some_iff.1 hg).1
   omega⟩, fun _ _ => rfl, ⟨fun said => by rintro ⟨i, j, _, ⟨a, b, ha, _⟩, _⟩; simp [Trace.act?] at ha, fun i a ha => by simp [touchAt, Trace.act?] at ha, fun i g hg => by simp [Trace.g?] at hg, rfl, fun i a ad ha => by simp [touchAt, Trace.act?] at ha, fun i a c ha => by simp [touchAt, Trace.act?] at ha⟩, fun _ h => h.elim⟩
end
#print axioms phase
#print axioms seqEnd
end Go.Proofs.Ytblpmdolclalnaa
