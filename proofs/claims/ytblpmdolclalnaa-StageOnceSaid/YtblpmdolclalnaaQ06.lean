/- A channel of the net is closed, by goroutine 0 or by a child. A value goes from goroutine 0 to a child, or from a child to a child; a goroutine is parked. Who is parked where; every step of a child that stands at its stop. -/
import Derived.Test.YtblpmdolclalnaaQ05
set_option maxHeartbeats 16000000
set_option linter.unusedSimpArgs false
set_option linter.unusedVariables false
namespace Go.Proofs.Ytblpmdolclalnaa
open Go.Conc
open Go.ConcR (WgAt KK stA smA rd wr mk DC0 deafBehind_cons deafBehind_one ofEvent_mk)
open Go.ConcN (WgLive sumTo upd upd_same upd_ne sumTo_upd sumTo_congr RelBy)
section
variable {P : Program} {ty : TypeId} {Wg : Nat} {N : Net} {Shun : Nat → Prop} {base T0 : Nat}
open Classical in
noncomputable def wakeD (D : Nat → KDt N) (y : Nat) : Nat → KDt N := fun k => if (D k).stage = 8 ∧ (D k).fuel = 0 ∧ N.act (D k).s = .recv y then { D k with fuel := 1 } else D k
theorem wakeD_s (D : Nat → KDt N) (y k : Nat) : (wakeD D y k).s = (D k).s := by unfold wakeD; split <;> rfl
theorem wakeD_kg (D : Nat → KDt N) (y k : Nat) : (wakeD D y k).kg = (D k).kg := by unfold wakeD; split <;> rfl
theorem wakeD_stage (D : Nat → KDt N) (y k : Nat) : (wakeD D y k).stage = (D k).stage := by unfold wakeD; split <;> rfl
theorem wakeD_deaf (D : Nat → KDt N) (y k : Nat) : (wakeD D y k).deaf = (D k).deaf := by unfold wakeD; split <;> rfl
theorem wakeD_pk {D : Nat → KDt N} {y k : Nat} (h8 : (wakeD D y k).stage = 8) (h0 : (wakeD D y k).fuel = 0) : (D k).stage = 8 ∧ (D k).fuel = 0 ∧ N.act (D k).s ≠ .recv y := by
 unfold wakeD at h8 h0
 split at h0
 · simp at h0
 · rename_i hc
   rw [if_neg hc] at h8
   exact ⟨h8, h0, fun e => hc ⟨h8, h0, e⟩⟩
theorem KStop.tries {own : Nat → Prop} {s : N.S} {Got : Cells} {Rd : Nat → Prop} {g : Goroutine} {w : World} (h : KStop P ty Wg N own s Got Rd g w) (cs : Array CommCase) (sh : CommShape) : KStop P ty Wg N own s Got Rd { parked (bare g) cs sh with status := .running } w := by
 have e : ∀ w, stepG P false { parked (bare g) cs sh with status := .running } w = stepG P false g w := fun w => stepG_same rfl rfl rfl w
 have eb : bare { parked (bare g) cs sh with status := .running } = bare g := rfl
 refine ⟨rfl, ?_⟩
 have h2 := h.2
 split
 · rename_i c hc
   rw [hc] at h2
   rw [e, eb]; exact h2
 · rename_i c v hc
   rw [hc] at h2
   rw [e, eb]; exact h2
 · rename_i c hc
   rw [hc] at h2
   refine ⟨?_, fun k hk => by rw [e]; exact h2.2 k hk⟩
   have h21 := h2.1
   unfold mayWake at h21 ⊢
   exact h21
 · rename_i b y hc
   rw [hc] at h2
   intro hK hb v hv hc
   rw [e]; exact h2 hK hb v hv hc
 · rename_i hc
   rw [hc] at h2
   rw [e]; exact h2
theorem kid_wake (hN : NetOK P ty Wg N) {c : Cf N} {t : Trace} (hI : Inv P ty Wg N Shun base T0 c t) {k y : Nat} (hk : k < c.j) {w' : World} {x x' : Goroutine} (hmw : mayWake P x = true) (hx' : x'.status = .running)
   (hKR : KR ty Wg (ownK c.o k) (c.D k).kg.Got (c.D k).kg.Rd c.w w') (hns : ∀ v, N.act (c.D k).s ≠ .send y v) {q : Nat} (hy : w'.heap[y]? = some (.chan 0 #[] true q q false)) (hoth : ∀ z, z ≠ y → w'.heap[z]? = c.w.heap[z]?) :
   ∃ g, c.gs[base + k]? = some g ∧ KSit P ty Wg N c.o k (wakeD c.D y k).s (wakeD c.D y k).kg (wakeD c.D y k).stage (wakeD c.D y k).fuel (wakeD c.D y k).deaf (woken P x x' w' g) w' := by
 obtain ⟨g, hg, hs⟩ := hI.kids k hk
 refine ⟨g, hg, ?_⟩
 obtain ⟨m₀, hm₀⟩ := hI.ex
 have hs' := hs.rely hKR (Agr.refl _ _)
 by_cases hp : (c.D k).stage = 8 ∧ (c.D k).fuel = 0 ∧ N.act (c.D k).s = .recv y
 · have e : wakeD c.D y k = { c.D k with fuel := 1 } := by unfold wakeD; rw [if_pos hp]
   rw [e]
   obtain ⟨h8, h0, ha⟩ := hp
   simp only
   generalize hst : (c.D k).stage = st at hs' h8
   generalize hfu : (c.D k).fuel = fu at hs' h0
   generalize hde : (c.D k).deaf = de at hs'
   subst h8 h0
   cases hs' with
   | @pkR g' _ c' ha' h =>
     rw [ha] at ha'
     cases ha'
     have ew : woken P x x' w' (parked (bare g') #[rcase y (N.zero (c.D k).s)] (N.shape (c.D k).s)) = { parked (bare g') #[rcase y (N.zero (c.D k).s)] (N.shape (c.D k).s) with status := .running } := by
       unfold woken
       rw [if_pos (by simp [hmw, hx'])]
       exact again_recv_closed hy
     rw [ew]
     exact .wok fun o' ho w₁ h₁ => (h o' ho w₁ h₁).tries _ _
   | pkS ha' _ => rw [ha] at ha'; cases ha'
 · have e : wakeD c.D y k = c.D k := by unfold wakeD; rw [if_neg hp]
   rw [e, hs'.woken hN x x' fun h8 h0 z hz => ?_]
   · exact hs'
   · have hopen : c.cl z = some false := by
       rcases hz with hz | ⟨v, hz⟩
       · exact hI.pOpen k hk h8 h0 z hz
       · exact ((hN.chans _ _ _ _ (hI.prot m₀ hm₀).1).2 k hk).2 z v hz
     have hzy : z ≠ y := fun e => by
       subst e
       rcases hz with hz | ⟨v, hz⟩
       · exact hp ⟨h8, h0, hz⟩
       · exact hns v hz
     rw [hoth z hzy]
     exact hI.chan z false hopen
theorem close_quiet {c g : Nat} {fn : FuncId} {pos : String} {AB NC : Nat → Prop} (hc : ¬ NC c) : (∀ op ∈ MemOp.ofEvents g fn pos (closeEvents c), (∀ b, op.act.touch? = some b → Sh Wg AB NC b.loc ∧ b.kind = .atomic) ∧ (∀ a, op.act ≠ .mark (.release a)) ∧ op.act ≠ .mark .disable ∧ op.act ≠ .mark .enable ∧ op.g = g) := by
 intro op hop
 obtain ⟨e, he, rfl⟩ := Go.Conc.mem_ofEvents hop
 simp only [closeEvents, List.mem_toArray, List.mem_cons, List.not_mem_nil, or_false] at he
 rcases he with rfl | rfl
 · refine ⟨fun b hb => ?_, by simp [MemAct.ofEvent], by simp [MemAct.ofEvent], by simp [MemAct.ofEvent], rfl⟩
   simp only [MemAct.ofEvent, MemAct.touch?, Option.some.injEq] at hb
   subst hb
   exact ⟨.inr ⟨c, rfl, hc⟩, rfl⟩
 · refine ⟨fun b hb => ?_, by simp [MemAct.ofEvent], by simp [MemAct.ofEvent], by simp [MemAct.ofEvent], rfl⟩
   simp [MemAct.ofEvent, MemAct.touch?] at hb
theorem setChan_ne {w : World} {c b q r : Nat} {x : Bool} (h : b ≠ c) : (w.setChan c 0 #[] x q r false).heap[b]? = w.heap[b]? := Array.getElem?_setIfInBounds_ne (fun e => h e.symm)
theorem setChan_self {w : World} {c q r : Nat} {x : Bool} {ob : Obj} (h : w.heap[c]? = some ob) : (w.setChan c 0 #[] x q r false).heap[c]? = some (.chan 0 #[] x q r false) := by
 have hlt := (Array.getElem?_eq_some_iff.1 h).1
 show (w.heap.setIfInBounds c _)[c]? = _
 simp [hlt]
theorem rel_chan {Keep : Cells} {w : World} {c q r q' r' : Nat} {x x' : Bool} (h : w.heap[c]? = some (.chan 0 #[] x q r false)) (hK : ∀ o, ¬ Keep c o) (hc : c ≠ Wg) : Rel ty Wg Keep w (w.setChan c 0 #[] x' q' r' false) := by
 refine Rel.turn ⟨_, h, fun _ _ _ e => by cases e⟩ hK fun ⟨st, sm, hl⟩ => ⟨st, sm, hl.of_block ?_⟩
 exact Array.getElem?_setIfInBounds_ne hc
theorem keep_chan {c : Cf N} {t : Trace} (hI : Inv P ty Wg N Shun base T0 c t) {y : Nat} (hy : c.cl y ≠ none) : (∀ k, k < c.j → ∀ x, ¬ keepK (ownK c.o k) (c.D k).kg.Got (c.D k).kg.Rd y x) ∧ ∀ x, ¬ keepM (own0 c.o) c.Given y x := by
 have hG := hI.gh
 have hc := hG.ch y hy
 refine ⟨fun k hk x hx => ?_, fun x hx => hx.2 (hc.2.2.2 x)⟩
 rcases hx with e | e | e
 · unfold ownK at e; omega
 · exact (hG.got k hk _ _ e).2.2.2 hy
 · exact (hG.fz _ (hG.rd k hk _ e)).2.2 x (hc.2.2.2 x)
theorem ab_ne {c : Cf N} {t : Trace} (hI : Inv P ty Wg N Shun base T0 c t) {b y : Nat} (hb : N.AB b) (hy : c.cl y ≠ none) : b ≠ y := fun e => by
 subst e
 obtain ⟨z, hz⟩ := hb
 have h1 := hI.cells b z hz
 cases hc : c.cl b with
 | none => exact hy hc
 | some x =>
   obtain ⟨k, h2⟩ := hI.chan b x hc
   simp [World.cell?, h2] at h1
theorem main_shut (hN : NetOK P ty Wg N) (hb : 0 < base) {c : Cf N} {t : Trace} (hI : Inv P ty Wg N Shun base T0 c t) {a : Goroutine} (ha : c.gs[0]? = some a) {m : N.M} {y : Nat} (hQ : c.Q m) (hm : N.mact m = .shut y) (htag : c.tag = .run) (hd : c.d0 = 0)
   (h : ∀ o', Ag c o' → MStop P ty Wg N (own0 o') m c.Given c.Fz a c.w) : Onward P ty Wg N Shun base T0 c t (runT P (crowd c.gs c.w c.sl) 0) := by
 obtain ⟨hcl, hns, hpos, hsucc⟩ := hN.mshut _ _ _ _ _ (hI.prot m hQ).1 hm
 obtain ⟨q, hch⟩ := hI.chan y false hcl
 have hG := hI.gh
 have hcy := hG.ch y (by rw [hcl]; simp)
 have h0 := (h c.o (Agr.refl _ _)).2
 rw [hm] at h0
 obtain ⟨hmw, h0⟩ := h0
 obtain ⟨g', hgr, hgo, _⟩ := h0 q hch
 have hrun := runT_crowd_go (P := P) (sl := c.sl) ha (by simpa using hgo)
 have hsz0 : 0 < c.gs.size := by rw [hI.size]; omega
 have hkeep := keep_chan hI (y := y) (by rw [hcl]; simp)
 have hny : ¬ Nc (c.w.setChan y 0 #[] true q q false) y := fun hn => hn ⟨_, _, _, _, _, _, setChan_self hch⟩
 have hchs : SameCh c.w (c.w.setChan y 0 #[] true q q false) := SameCh.put hch ⟨fun _ => ⟨_, _, _, _, _, _, rfl⟩, fun _ => ⟨_, _, _, _, _, _, rfl⟩⟩
 have hcq := fun op hop => close_quiet (AB := N.AB) (Wg := Wg) hny (c := y) (g := 0) (fn := a.frame.fn) (pos := a.frame.place) op hop
 have hothers : ∀ op ∈ MemOp.ofEvents 0 a.frame.fn a.frame.place (closeEvents y), op.g = 0 := fun op hop => (hcq op hop).2.2.2.2
 have hsz : (c.w.setChan y 0 #[] true q q false).heap.size = c.w.heap.size := by show (c.w.heap.setIfInBounds y _).size = _; simp
 have hdf : ∀ k, Deaf (t ++ MemOp.ofEvents 0 a.frame.fn a.frame.place (closeEvents y)) k = Deaf t k := fun k => Deaf_flat (fun op hop => ⟨(hcq op hop).2.2.1, (hcq op hop).2.2.2.1⟩) k
 have hDs : (fun k => (wakeD c.D y k).s) = fun k => (c.D k).s := funext fun k => wakeD_s _ _ _
 have hDg : (fun k => (wakeD c.D y k).kg) = fun k => (c.D k).kg := funext fun k => wakeD_kg _ _ _
 have hDt : (fun k => (wakeD c.D y k).stage) = fun k => (c.D k).stage := funext fun k => wakeD_stage _ _ _
 refine ⟨{ c with gs := (c.gs.map (woken P a g' (c.w.setChan y 0 #[] true q q false))).setIfInBounds 0 g', w := c.w.setChan y 0 #[] true q q false, cl := upd c.cl y (some true), D := wakeD c.D y, tag := .run, Q := N.succ m, B := N.muM m - 1, f0 := N.fuel + 1, d0 := 0 }, by rw [hrun], ?_, ?_⟩
 · show (_ ∨ _)
   left
   have hB := (hI.prot m hQ).2
   simp only [mu1, phi, htag, kmu, wakeD_s, wakeD_stage]
   omega
 · rw [hrun]
   refine ⟨by simp [hI.size], ⟨_, get_map_set_same _ _ _ _ hsz0, .run fun o' ho => ?_⟩, fun k hk => ?_, fun k z hk0 hkb hz => ?_, fun k hk => ?_, fun k hk => ?_, ?_, ?_, ?_, fun x b hx => ?_, ?_, ?_, fun k hk hsg => ?_, fun m' hm' => ?_, hN.some m (by rw [hm]; simp), ?_, fun k hk h8 h0 z hz => ?_,
     fun k k' z v hk hk' h8 h0 h8' h0' hz => ?_, fun htg => by simp at htg, fun b z hb => ?_⟩
   · have h1 := (h o' (by rw [hsz] at ho; exact ho)).2
     rw [hm] at h1
     obtain ⟨g'', _, hgo', hr⟩ := h1.2 q hch
     rw [hgo] at hgo'
     cases hgo'
     exact hr
   · obtain ⟨z, hz, hs⟩ := kid_wake hN hI hk (w' := c.w.setChan y 0 #[] true q q false) hmw hgr (rel_chan hch (hkeep.1 k hk) hcy.2.2.1) (fun v => hns k v hk) (setChan_self hch) (fun z hz => setChan_ne hz)
     exact ⟨_, by rw [get_map_set _ _ _ _ _ (by omega), hz]; rfl, hs⟩
   · rw [get_map_set _ _ _ _ _ (by omega)] at hz
     obtain ⟨z', hz', rfl⟩ := Option.map_eq_some_iff.1 hz
     have hq := hI.old k z' hk0 hkb hz'
     rw [woken_quitsD hq, hdf]
     exact hq
   · rw [hdf]; exact hI.above k hk
   · rw [hdf, wakeD_deaf]; exact hI.deafK k hk
   · rw [hdf, hI.deaf0, hd]
   · rw [hDg]
     show Gh Wg N.AB Shun c.o (c.w.setChan y 0 #[] true q q false).heap.size c.Given c.Fz (fun x => upd c.cl y (some true) x ≠ none) c.j _
     rw [hsz]
     have hiff : ∀ x, (upd c.cl y (some true) x ≠ none) → c.cl x ≠ none := fun x hx => by
       by_cases hxy : x = y
       · subst hxy; rw [hcl]; simp
       · rw [upd_ne _ _ hxy] at hx; exact hx
     exact ⟨hG.wg, hG.ab, hG.shun, hG.fz, fun x hx => hG.ch x (hiff x hx), hG.given, fun i hi b x hx => ⟨(hG.got i hi b x hx).1, (hG.got i hi b x hx).2.1, (hG.got i hi b x hx).2.2.1, fun hh => (hG.got i hi b x hx).2.2.2 (hiff b hh)⟩, hG.rd, hG.apart, hG.mine⟩
   · rw [hDg]
     show Tr Wg N.AB Shun c.o (c.w.setChan y 0 #[] true q q false).heap.size _ _ _ _ _ _ _ _
     rw [hsz]
     exact hI.tr.appM hG (Nat.le_refl _) hchs (fun _ hc => hsz ▸ Nc.lt hc) hothers (fun op hop b hbb => .inr (.inl ⟨((hcq op hop).1 b hbb).1, by rw [((hcq op hop).1 b hbb).2]; simp⟩)) (fun op hop => (hcq op hop).2.1)
   · show ∃ k, (c.w.setChan y 0 #[] true q q false).heap[x]? = _
     by_cases hxy : x = y
     · subst hxy
       have hx' : upd c.cl x (some true) x = some b := hx
       rw [upd_same] at hx'
       obtain rfl := Option.some.inj hx'
       exact ⟨q, setChan_self hch⟩
     · have hx' : upd c.cl y (some true) x = some b := hx
       rw [upd_ne _ _ hxy] at hx'
       rw [setChan_ne hxy]
       exact hI.chan x b hx'
   · exact hI.wg.of_block (setChan_ne hcy.2.2.1.symm)
   · rw [hDt]
     have := hI.mode
     rw [htag] at this
     exact this
   · rw [wakeD_stage] at hsg
     exact (hI.rel k hk hsg).app fun op hop e => by rw [hothers op hop] at e; omega
   · rw [hDs]
     have := hsucc m' hm'
     refine ⟨this.1, ?_⟩
     show N.muM m' ≤ N.muM m - 1
     omega
   · have := hI.t0; simp; omega
   · obtain ⟨h8', h0', hne⟩ := wakeD_pk h8 h0
     rw [wakeD_s] at hz
     have hzy : z ≠ y := fun e => hne (e ▸ hz)
     show upd c.cl y (some true) z = _
     rw [upd_ne _ _ hzy]
     exact hI.pOpen k hk h8' h0' z hz
   · obtain ⟨a1, a2, _⟩ := wakeD_pk h8 h0
     obtain ⟨b1, b2, _⟩ := wakeD_pk h8' h0'
     rw [wakeD_s] at hz ⊢
     exact hI.pKK k k' z v hk hk' a1 a2 b1 b2 hz
   · rw [hDs]
     exact (cell?_eq (setChan_ne (ab_ne hI ⟨z, hb⟩ (by rw [hcl]; simp))) z).trans (hI.cells b z hb)
theorem kid_shut (hN : NetOK P ty Wg N) (hb : 0 < base) {c : Cf N} {t : Trace} (hI : Inv P ty Wg N Shun base T0 c t) {i : Nat} (hi : i < c.j) {g : Goroutine} (hg : c.gs[base + i]? = some g) {y : Nat} (h8 : (c.D i).stage = 8) (hd : (c.D i).deaf = 0) (ha : N.act (c.D i).s = .shut y)
   (h : ∀ o', Ag c o' → KStop P ty Wg N (ownK o' i) (c.D i).s (c.D i).kg.Got (c.D i).kg.Rd g c.w) : Onward P ty Wg N Shun base T0 c t (runT P (crowd c.gs c.w c.sl) (base + i)) := by
 obtain ⟨m₀, hm₀⟩ := hI.ex
 obtain ⟨hcl, hns, _, _⟩ := hN.kshut _ _ _ _ _ _ (hI.prot m₀ hm₀).1 hi ha
 obtain ⟨q, hch⟩ := hI.chan y false hcl
 have hG := hI.gh
 have hcy := hG.ch y (by rw [hcl]; simp)
 have h0 := (h c.o (Agr.refl _ _)).2
 rw [ha] at h0
 obtain ⟨hmw, h0⟩ := h0
 obtain ⟨g', hgr, hgo, _⟩ := h0 q hch
 have hi0 : (base + i == 0) = false := by simp; omega
 have hrun := runT_crowd_go (P := P) (sl := c.sl) hg (by rw [hi0]; exact hgo)
 have hszg : base + i < c.gs.size := by rw [hI.size]; omega
 have hkeep := keep_chan hI (y := y) (by rw [hcl]; simp)
 have hny : ¬ Nc (c.w.setChan y 0 #[] true q q false) y := fun hn => hn ⟨_, _, _, _, _, _, setChan_self hch⟩
 have hchs : SameCh c.w (c.w.setChan y 0 #[] true q q false) := SameCh.put hch ⟨fun _ => ⟨_, _, _, _, _, _, rfl⟩, fun _ => ⟨_, _, _, _, _, _, rfl⟩⟩
 have hcq := fun op hop => close_quiet (AB := N.AB) (Wg := Wg) hny (c := y) (g := base + i) (fn := g.frame.fn) (pos := g.frame.place) op hop
 have hothers : ∀ op ∈ MemOp.ofEvents (base + i) g.frame.fn g.frame.place (closeEvents y), op.g = base + i := fun op hop => (hcq op hop).2.2.2.2
 have hsz : (c.w.setChan y 0 #[] true q q false).heap.size = c.w.heap.size := by show (c.w.heap.setIfInBounds y _).size = _; simp
 have hdf : ∀ k, Deaf (t ++ MemOp.ofEvents (base + i) g.frame.fn g.frame.place (closeEvents y)) k = Deaf t k := fun k => Deaf_flat (fun op hop => ⟨(hcq op hop).2.2.1, (hcq op hop).2.2.2.1⟩) k
 obtain ⟨a, haa, hma⟩ := hI.main
 have hma' := hma.rely (rel_chan (x' := true) (q' := q) (r' := q) hch hkeep.2 hcy.2.2.1) (Agr.refl _ _)
 obtain ⟨tag', f', hm', hf', htag, hwk, hsame⟩ := hma'.wokenBy hN g g' (fun htg m z v hQ hz => by
   have hzc := ((hN.chans _ _ _ _ (hI.prot m hQ).1).1 z v hz)
   have hzy : z ≠ y := fun e => (hN.kshut _ _ _ _ _ _ (hI.prot m hQ).1 hi ha).2.2.1 v (e ▸ hz)
   rw [setChan_ne hzy]
   exact hI.chan z false hzc)
 let x : KDt N := ⟨N.next (c.D i).s, (c.D i).kg, 8, N.fuel + 2, 0⟩
 let D' : Nat → KDt N := upd (wakeD c.D y) i x
 have hDs : (fun k => (D' k).s) = upd (fun k => (c.D k).s) i (N.next (c.D i).s) := by
   funext k
   by_cases hk : k = i
   · subst hk; simp only [D', upd_same]; rfl
   · simp only [D', upd_ne _ _ hk, wakeD_s]
 have hDg : (fun k => (D' k).kg) = fun k => (c.D k).kg := by
   funext k
   by_cases hk : k = i
   · subst hk; simp only [D', upd_same]; rfl
   · simp only [D', upd_ne _ _ hk, wakeD_kg]
 have hDt : (fun k => (D' k).stage) = fun k => (c.D k).stage := by
   funext k
   by_cases hk : k = i
   · subst hk; simp only [D', upd_same]; exact h8.symm
   · simp only [D', upd_ne _ _ hk, wakeD_stage]
 have hpk : ∀ k, (D' k).stage = 8 → (D' k).fuel = 0 → k ≠ i ∧ (c.D k).stage = 8 ∧ (c.D k).fuel = 0 ∧ N.act (c.D k).s ≠ .recv y := fun k e8 e0 => by
   by_cases hk : k = i
   · subst hk; simp only [D', upd_same] at e0; exact absurd e0 (by simp [x])
   · simp only [D', upd_ne _ _ hk] at e8 e0
     exact ⟨hk, wakeD_pk e8 e0⟩
 refine ⟨{ c with gs := (c.gs.map (woken P g g' (c.w.setChan y 0 #[] true q q false))).setIfInBounds (base + i) g', w := c.w.setChan y 0 #[] true q q false, cl := upd c.cl y (some true), D := D', tag := tag', f0 := f' }, by rw [hrun], ?_, ?_⟩
 · show (_ ∨ _)
   left
   have e1 := kmu_upd hi (wakeD c.D y) x
   have e2 : (sumTo c.j fun k => kmu N (wakeD c.D y k)) = sumTo c.j fun k => kmu N (c.D k) := by simp only [kmu, wakeD_s, wakeD_stage]
   have e3 : kmu N (wakeD c.D y i) = kmu N (c.D i) := by simp only [kmu, wakeD_s, wakeD_stage]
   have hls := hN.lessN (c.D i).s (by simp [ha]) (by simp [ha]) (by simp [ha])
   have hkx : kmu N x + 64 ≤ kmu N (c.D i) := by simp only [kmu, x, h8]; omega
   simp only [mu1]
   have hp : phi c.j (Vc c.j fun k => (D' k).stage) c.B tag' = phi c.j (Vc c.j fun k => (c.D k).stage) c.B c.tag := by
     rw [hDt]
     rcases htag with e | ⟨e, e'⟩
     · rw [e]
     · rw [e, e']; rfl
   have hD'e : (sumTo c.j fun k => kmu N (D' k)) = sumTo c.j fun k => kmu N (upd (wakeD c.D y) i x k) := rfl
   omega
 · rw [hrun]
   refine ⟨by simp [hI.size], ⟨_, by rw [get_map_set _ _ _ _ _ (by omega), haa]; rfl, hm'⟩, fun k hk => ?_, fun k z hk0 hkb hz => ?_, fun k hk => ?_, fun k hk => ?_, ?_, ?_, ?_, fun x b hx => ?_, ?_, ?_, fun k hk hsg => ?_, fun m' hm' => ?_, ⟨m₀, hm₀⟩, ?_, fun k hk e8 e0 z hz => ?_,
     fun k k' z v hk hk' e8 e0 e8' e0' hz => ?_, fun htg m hm k z v hk e8 e0 hz => ?_, fun b z hb => ?_⟩
   · by_cases hki : k = i
     · subst hki
       refine ⟨g', get_map_set_same _ _ _ _ hszg, ?_⟩
       simp only [D', upd_same, x]
       refine .run fun o' ho => ?_
       have h1 := (h o' (by rw [hsz] at ho; exact ho)).2
       rw [ha] at h1
       obtain ⟨g'', _, hgo', hr⟩ := h1.2 q hch
       rw [hgo] at hgo'
       cases hgo'
       exact hr
     · obtain ⟨z, hz, hs⟩ := kid_wake hN hI hk (w' := c.w.setChan y 0 #[] true q q false) hmw hgr (rel_chan hch (hkeep.1 k hk) hcy.2.2.1) (fun v => hns k v hk) (setChan_self hch) (fun z hz => setChan_ne hz)
       refine ⟨_, by rw [get_map_set _ _ _ _ _ (by omega), hz]; rfl, ?_⟩
       simp only [D', upd_ne _ _ hki]
       exact hs
   · rw [get_map_set _ _ _ _ _ (by omega)] at hz
     obtain ⟨z', hz', rfl⟩ := Option.map_eq_some_iff.1 hz
     have hq := hI.old k z' hk0 hkb hz'
     rw [woken_quitsD hq, hdf]
     exact hq
   · rw [hdf]; exact hI.above k hk
   · rw [hdf]
     by_cases hki : k = i
     · subst hki; simp only [D', upd_same]; rw [hI.deafK k hk, hd]
     · simp only [D', upd_ne _ _ hki, wakeD_deaf]; exact hI.deafK k hk
   · rw [hdf, hI.deaf0]
   · rw [hDg]
     show Gh Wg N.AB Shun c.o (c.w.setChan y 0 #[] true q q false).heap.size c.Given c.Fz (fun x => upd c.cl y (some true) x ≠ none) c.j _
     rw [hsz]
     have hiff : ∀ x, (upd c.cl y (some true) x ≠ none) → c.cl x ≠ none := fun x hx => by
       by_cases hxy : x = y
       · subst hxy; rw [hcl]; simp
       · rw [upd_ne _ _ hxy] at hx; exact hx
     exact ⟨hG.wg, hG.ab, hG.shun, hG.fz, fun x hx => hG.ch x (hiff x hx), hG.given, fun i hi b x hx => ⟨(hG.got i hi b x hx).1, (hG.got i hi b x hx).2.1, (hG.got i hi b x hx).2.2.1, fun hh => (hG.got i hi b x hx).2.2.2 (hiff b hh)⟩, hG.rd, hG.apart, hG.mine⟩
   · rw [hDg]
     show Tr Wg N.AB Shun c.o (c.w.setChan y 0 #[] true q q false).heap.size _ _ _ _ _ _ _ _
     rw [hsz]
     exact hI.tr.appK hG (Nat.le_refl _) hchs (fun _ hc => hsz ▸ Nc.lt hc) hi hothers (fun op hop b hbb => .inr ((hcq op hop).1 b hbb)) (fun op hop => (hcq op hop).2.1)
   · show ∃ k, (c.w.setChan y 0 #[] true q q false).heap[x]? = _
     by_cases hxy : x = y
     · subst hxy
       have hx' : upd c.cl x (some true) x = some b := hx
       rw [upd_same] at hx'
       obtain rfl := Option.some.inj hx'
       exact ⟨q, setChan_self hch⟩
     · have hx' : upd c.cl y (some true) x = some b := hx
       rw [upd_ne _ _ hxy] at hx'
       rw [setChan_ne hxy]
       exact hI.chan x b hx'
   · exact hI.wg.of_block (setChan_ne hcy.2.2.1.symm)
   · rw [hDt]; exact hI.mode.retag htag
   · have hst : (D' k).stage = (c.D k).stage := congrFun hDt k
     rw [hst] at hsg
     have hki : k ≠ i := fun e => by subst e; omega
     exact (hI.rel k hk hsg).app fun op hop e => by rw [hothers op hop] at e; omega
   · rw [hDs]
     exact ⟨(hN.kshut _ _ _ _ _ _ (hI.prot m' hm').1 hi ha).2.2.2, (hI.prot m' hm').2⟩
   · have := hI.t0; simp; omega
   · obtain ⟨hki, h8', h0', hne⟩ := hpk k e8 e0
     simp only [D', upd_ne _ _ hki, wakeD_s] at hz
     have hzy : z ≠ y := fun e => hne (e ▸ hz)
     show upd c.cl y (some true) z = _
     rw [upd_ne _ _ hzy]
     exact hI.pOpen k hk h8' h0' z hz
   · obtain ⟨hki, a1, a2, _⟩ := hpk k e8 e0
     obtain ⟨hki', b1, b2, _⟩ := hpk k' e8' e0'
     simp only [D', upd_ne _ _ hki, wakeD_s] at hz
     simp only [D', upd_ne _ _ hki', wakeD_s]
     exact hI.pKK k k' z v hk hk' a1 a2 b1 b2 hz
   · obtain ⟨hki, a1, a2, _⟩ := hpk k e8 e0
     simp only [D', upd_ne _ _ hki, wakeD_s] at hz
     rcases htag with e | ⟨_, e⟩
     · exact hI.pMK (e ▸ htg) m hm k z v hk a1 a2 hz
     · rw [e] at htg; cases htg
   · rw [hDs]
     refine Eq.trans ?_ (congrArg some (hN.vNext c.j (fun k => (c.D k).s) i hi (by simp [ha]) (by simp [ha]) (by simp [ha]) b z hb).symm)
     exact (cell?_eq (setChan_ne (ab_ne hI ⟨z, hb⟩ (by rw [hcl]; simp))) z).trans (hI.cells b z hb)
end
section
variable {P : Program} {ty : TypeId} {Wg : Nat} {N : Net} {Shun : Nat → Prop} {base T0 : Nat}
def Meet (x y : Nat) (u : Array MemOp) : Prop := ∀ op ∈ u, op.act.touch? = none ∧ (∀ a, op.act ≠ .mark (.release a)) ∧ (op.act ≠ .mark .disable ∧ op.act ≠ .mark .enable) ∧ (op.g = x ∨ op.g = y)
theorem Mode.run_of {j : Nat} {sg : Nat → Nat} {tag : MTag} {st sm : Int} (h : Mode j sg tag st sm) (ht : tag = .run ∨ tag = .pk) : Mode j sg .run st sm := by
 cases h with
 | opn h1 h2 h3 =>
   have e : pend tag = pend .run := by rcases ht with rfl | rfl <;> rfl
   rw [e]
   exact .opn trivial h2 (fun vs hvs => by cases hvs)
 | reg h1 _ _ => rcases ht with rfl | rfl <;> exact h1.elim
 | last L h1 _ _ _ => rcases ht with rfl | rfl <;> exact h1.elim
 | sema _ => rcases ht with h | h <;> cases h
 | fin h1 _ => rcases ht with rfl | rfl <;> exact h1.elim
theorem at_chan {w : World} {d y q r : Nat} {x : Bool} : ((w.at d).setChan y 0 #[] x q r false).heap = (w.setChan y 0 #[] x q r false).heap := rfl
theorem rel_chan_at {Keep : Cells} {w : World} {c q r q' r' d : Nat} {x x' : Bool} (h : w.heap[c]? = some (.chan 0 #[] x q r false)) (hK : ∀ o, ¬ Keep c o) (hc : c ≠ Wg) : Rel ty Wg Keep w ((w.at d).setChan c 0 #[] x' q' r' false) :=
 (Rel.at w d).trans (rel_chan (w := w.at d) h hK hc)
theorem meet_main (hN : NetOK P ty Wg N) (hb : 0 < base) {c : Cf N} {t : Trace} (hI : Inv P ty Wg N Shun base T0 c t) {m : N.M} {i y : Nat} {v : Value} (hQ : c.Q m) (hm : N.mact m = .send y v) (htag : c.tag = .run ∨ c.tag = .pk) (hd0 : c.d0 = 0)
   (hi : i < c.j) (h8 : (c.D i).stage = 8) (hd : (c.D i).deaf = 0) (hact : N.act (c.D i).s = .recv y) {gm gk : Goroutine}
   (hM : ∀ o', Ag c o' → MOffer P ty Wg N (own0 o') m c.Given c.Fz y v gm c.w) (hK : ∀ o', Ag c o' → Await P ty Wg N (ownK o' i) (c.D i).s (c.D i).kg.Got (c.D i).kg.Rd y gk c.w)
   {gs' : Array Goroutine} {u : Array MemOp} {d q : Nat} {sl : Option (Nat × Nat)} (hq : c.w.heap[y]? = some (.chan 0 #[] false q q false)) (hsz : gs'.size = c.gs.size) (hg0 : gs'[0]? = some (gm.finishComm P #[scase y v (N.mzero m)] .send 0 undef false))
   (hgi : gs'[base + i]? = some (gk.finishComm P #[rcase y (N.zero (c.D i).s)] (N.shape (c.D i).s) 0 v true)) (hgo : ∀ k, k ≠ 0 → k ≠ base + i → gs'[k]? = c.gs[k]?) (hu : Meet 0 (base + i) u)
   (hkn : ∀ x, Deaf t 0 = 0 → Deaf t (base + i) = 0 → Knows t 0 x → Knows (t ++ u) (base + i) x) :
   Onward P ty Wg N Shun base T0 c t (.next (crowd gs' ((c.w.at d).setChan y 0 #[] false (q + 1) (q + 1) false) sl), u) := by
 obtain ⟨hok, hpos, hsucc⟩ := hN.mmeet _ _ _ _ _ _ _ (hI.prot m hQ).1 hm hi hact
 have hcl := ((hN.chans _ _ _ _ (hI.prot m hQ).1).1) y v hm
 have hG := hI.gh
 have hcy := hG.ch y (by rw [hcl]; simp)
 have hkeep := keep_chan hI (y := y) (by rw [hcl]; simp)
 have hsame : SameCh c.w ((c.w.at d).setChan y 0 #[] false (q + 1) (q + 1) false) := fun b hb => SameCh.put (w := c.w.at d) hq ⟨fun _ => ⟨_, _, _, _, _, _, rfl⟩, fun _ => ⟨_, _, _, _, _, _, rfl⟩⟩ b hb
 have hwsz : ((c.w.at d).setChan y 0 #[] false (q + 1) (q + 1) false).heap.size = c.w.heap.size := by show (c.w.heap.setIfInBounds y _).size = _; simp
 have hdf : ∀ k, Deaf (t ++ u) k = Deaf t k := fun k => Deaf_flat (fun op hop => (hu op hop).2.2.1) k
 have hD0 : Deaf t 0 = 0 := by rw [hI.deaf0, hd0]
 have hDi : Deaf t (base + i) = 0 := by rw [hI.deafK i hi, hd]
 have hKR : ∀ o', Ag c o' → ∀ k, k < c.j → KR ty Wg (ownK o' k) (c.D k).kg.Got (c.D k).kg.Rd c.w ((c.w.at d).setChan y 0 #[] false (q + 1) (q + 1) false) := fun o' ho k hk => KR.agr (rel_chan_at hq (hkeep.1 k hk) hcy.2.2.1) ho
 have hMR : ∀ o', Ag c o' → MR ty Wg (own0 o') c.Given c.w ((c.w.at d).setChan y 0 #[] false (q + 1) (q + 1) false) := fun o' ho => MR.agr (rel_chan_at hq hkeep.2 hcy.2.2.1) ho
 have hS : ∀ b x, N.gift v b x → b < c.w.heap.size ∧ c.o b = 0 ∧ ¬ c.Given b x ∧ ¬ c.Fz b := (hM c.o (Agr.refl _ _)).1
 let x : KDt N := ⟨N.got (c.D i).s v, ⟨fun b z => (c.D i).kg.Got b z ∨ N.gift v b z, (c.D i).kg.Rd⟩, 8, N.fuel + 2, 0⟩
 have hDs : (fun k => (upd c.D i x k).s) = upd (fun k => (c.D k).s) i (N.got (c.D i).s v) := by
   funext k; unfold upd; split <;> rfl
 have hDg : (fun k => (upd c.D i x k).kg) = upd (fun k => (c.D k).kg) i ⟨fun b z => (c.D i).kg.Got b z ∨ N.gift v b z, (c.D i).kg.Rd⟩ := by
   funext k; unfold upd; split <;> rfl
 have hDt : (fun k => (upd c.D i x k).stage) = fun k => (c.D k).stage := stage_same h8.symm
 have hpk : ∀ k, (upd c.D i x k).stage = 8 → (upd c.D i x k).fuel = 0 → k ≠ i := fun k _ e0 hk => by
   subst hk; simp only [upd_same] at e0; exact absurd e0 (by simp [x])
 refine ⟨{ c with gs := gs', w := (c.w.at d).setChan y 0 #[] false (q + 1) (q + 1) false, sl := sl, Given := (fun b z => c.Given b z ∨ N.gift v b z), D := upd c.D i x, tag := .run, Q := N.succ m, B := N.muM m - 1, f0 := N.fuel + 1, d0 := 0 }, rfl, ?_, ?_⟩
 · show (_ ∨ _)
   left
   have e1 := kmu_upd hi c.D x
   have hB := (hI.prot m hQ).2
   have hls := hN.less _ _ hok
   have hkx : kmu N x + 64 ≤ kmu N (c.D i) := by simp only [kmu, x, h8]; omega
   simp only [mu1]
   have hp : phi c.j (Vc c.j fun k => (c.D k).stage) c.B c.tag = 64 * c.B + 8 * c.j + 20 := by rcases htag with e | e <;> rw [e] <;> rfl
   rw [hp]
   simp only [phi]
   omega
 · refine ⟨hsz.trans hI.size, ⟨_, hg0, .run fun o' ho => ?_⟩, fun k hk => ?_, fun k z hk0 hkb hz => ?_, fun k hk => ?_, fun k hk => ?_, ?_, ?_, ?_, fun z b hz => ?_, ?_, ?_, fun k hk hsg => ?_, fun m' hm' => ?_, hN.some m (by rw [hm]; simp), ?_, fun k hk e8 e0 z hz => ?_,
     fun k k' z w hk hk' e8 e0 e8' e0' hz => ?_, fun htg => by simp at htg, fun b z hb => ?_⟩
   · have ho' : Ag c o' := by rw [hwsz] at ho; exact ho
     exact (hM o' ho').2.2 _ (hMR o' ho')
   · by_cases hki : k = i
     · subst hki
       refine ⟨_, hgi, ?_⟩
       simp only [upd_same, x]
       refine .run fun o' ho => ?_
       have ho' : Ag c o' := by rw [hwsz] at ho; exact ho
       exact (hK o' ho').1 v _ (hKR o' ho' k hk) hok ((hM o' ho').2.1 _ (hMR o' ho')) fun b z hz => ⟨fun hgz => (hS b z hz).2.2.1 ((hG.got _ hk b z hgz).1), fun hr => (hS b z hz).2.2.2 (hG.rd _ hk b hr)⟩
     · obtain ⟨z, hz, hsz'⟩ := hI.kids k hk
       refine ⟨z, by rw [hgo _ (by omega) (by omega)]; exact hz, ?_⟩
       simp only [upd_ne _ _ hki]
       exact hsz'.rely (hKR c.o (Agr.refl _ _) k hk) (Agr.refl _ _)
   · have hz' : gs'[k]? = some z := hz
     rw [hgo _ (by omega) (by omega)] at hz'
     rw [hdf]
     exact hI.old k z hk0 hkb hz'
   · rw [hdf]; exact hI.above k hk
   · rw [hdf]
     by_cases hki : k = i
     · subst hki; simp only [upd_same]; exact hDi
     · simp only [upd_ne _ _ hki]; exact hI.deafK k hk
   · rw [hdf]; exact hD0
   · rw [hDg]
     show Gh Wg N.AB Shun c.o ((c.w.at d).setChan y 0 #[] false (q + 1) (q + 1) false).heap.size _ _ _ _ _
     rw [hwsz]
     exact hG.give hS
   · rw [hDg]
     show Tr Wg N.AB Shun c.o ((c.w.at d).setChan y 0 #[] false (q + 1) (q + 1) false).heap.size _ _ _ _ _ _ _ _
     rw [hwsz]
     exact (hI.tr.give hS (fun op hop => (hu op hop).1) (fun op hop => (hu op hop).2.1) (fun z hz => hkn z hD0 hDi hz)).nc hsame
   · show ∃ k, ((c.w.at d).setChan y 0 #[] false (q + 1) (q + 1) false).heap[z]? = _
     rw [at_chan]
     by_cases hzy : z = y
     · subst hzy
       have hz' : c.cl z = some b := hz
       rw [hcl] at hz'
       obtain rfl := Option.some.inj hz'
       exact ⟨q + 1, setChan_self hq⟩
     · rw [setChan_ne hzy]
       exact hI.chan z b hz
   · exact hI.wg.of_block (setChan_ne (w := c.w) hcy.2.2.1.symm)
   · rw [hDt]; exact hI.mode.run_of htag
   · have hst : (upd c.D i x k).stage = (c.D k).stage := congrFun hDt k
     rw [hst] at hsg
     exact (hI.rel k hk hsg).app fun op hop e => by
       have hki : k ≠ i := fun e => by subst e; omega
       rcases (hu op hop).2.2.2 with h | h <;> omega
   · rw [hDs]
     have := hsucc m' hm'
     refine ⟨this.1, ?_⟩
     show N.muM m' ≤ N.muM m - 1
     omega
   · have := hI.t0; simp; omega
   · have hki := hpk k e8 e0
     simp only [upd_ne _ _ hki] at e8 e0 hz
     exact hI.pOpen k hk e8 e0 z hz
   · have hki := hpk k e8 e0
     have hki' := hpk k' e8' e0'
     simp only [upd_ne _ _ hki] at e8 e0 hz
     simp only [upd_ne _ _ hki'] at e8' e0' ⊢
     exact hI.pKK k k' z w hk hk' e8 e0 e8' e0' hz
   · rw [hDs]
     refine Eq.trans ?_ (congrArg some (hN.vGot c.j (fun k => (c.D k).s) i v hi hok b z hb).symm)
     exact (cell?_eq (setChan_ne (w := c.w) (ab_ne hI ⟨z, hb⟩ (by rw [hcl]; simp))) z).trans (hI.cells b z hb)
theorem meet_kids (hN : NetOK P ty Wg N) (hb : 0 < base) {c : Cf N} {t : Trace} (hI : Inv P ty Wg N Shun base T0 c t) {i k y : Nat} {v : Value} (hi : i < c.j) (hk : k < c.j) (hik : i ≠ k) (hi8 : (c.D i).stage = 8) (hid : (c.D i).deaf = 0) (hia : N.act (c.D i).s = .send y v)
   (hk8 : (c.D k).stage = 8) (hkd : (c.D k).deaf = 0) (hka : N.act (c.D k).s = .recv y) {gi gk : Goroutine}
   (hO : ∀ o', Ag c o' → Offer P ty Wg N (ownK o' i) (c.D i).s (c.D i).kg.Got (c.D i).kg.Rd y v gi c.w) (hA : ∀ o', Ag c o' → Await P ty Wg N (ownK o' k) (c.D k).s (c.D k).kg.Got (c.D k).kg.Rd y gk c.w)
   {gs' : Array Goroutine} {u : Array MemOp} {d q : Nat} {sl : Option (Nat × Nat)} (hq : c.w.heap[y]? = some (.chan 0 #[] false q q false)) (hsz : gs'.size = c.gs.size) (hgi : gs'[base + i]? = some (gi.finishComm P #[scase y v (N.zero (c.D i).s)] .send 0 undef false))
   (hgk : gs'[base + k]? = some (gk.finishComm P #[rcase y (N.zero (c.D k).s)] (N.shape (c.D k).s) 0 v true)) (hgo : ∀ x, x ≠ base + i → x ≠ base + k → gs'[x]? = c.gs[x]?) (hu : Meet (base + i) (base + k) u) :
   Onward P ty Wg N Shun base T0 c t (.next (crowd gs' ((c.w.at d).setChan y 0 #[] false (q + 1) (q + 1) false) sl), u) := by
 obtain ⟨m₀, hm₀⟩ := hI.ex
 obtain ⟨hok, _⟩ := hN.kmeet _ _ _ _ _ _ _ _ (hI.prot m₀ hm₀).1 hi hk hik hia hka
 have hcl := ((hN.chans _ _ _ _ (hI.prot m₀ hm₀).1).2 i hi).2 y v hia
 have hG := hI.gh
 have hcy := hG.ch y (by rw [hcl]; simp)
 have hkeep := keep_chan hI (y := y) (by rw [hcl]; simp)
 have hsame : SameCh c.w ((c.w.at d).setChan y 0 #[] false (q + 1) (q + 1) false) := fun b hb => SameCh.put (w := c.w.at d) hq ⟨fun _ => ⟨_, _, _, _, _, _, rfl⟩, fun _ => ⟨_, _, _, _, _, _, rfl⟩⟩ b hb
 have hwsz : ((c.w.at d).setChan y 0 #[] false (q + 1) (q + 1) false).heap.size = c.w.heap.size := by show (c.w.heap.setIfInBounds y _).size = _; simp
 have hdf : ∀ x, Deaf (t ++ u) x = Deaf t x := fun x => Deaf_flat (fun op hop => (hu op hop).2.2.1) x
 have hKR : ∀ o', Ag c o' → ∀ x, x < c.j → KR ty Wg (ownK o' x) (c.D x).kg.Got (c.D x).kg.Rd c.w ((c.w.at d).setChan y 0 #[] false (q + 1) (q + 1) false) := fun o' ho x hx => KR.agr (rel_chan_at hq (hkeep.1 x hx) hcy.2.2.1) ho
 have hMR : MR ty Wg (own0 c.o) c.Given c.w ((c.w.at d).setChan y 0 #[] false (q + 1) (q + 1) false) := rel_chan_at hq hkeep.2 hcy.2.2.1
 have hng := (hO c.o (Agr.refl _ _)).1
 have hGot : (fun b z => (c.D k).kg.Got b z ∨ N.gift v b z) = (c.D k).kg.Got := by
   funext b z
   exact propext ⟨fun h => h.elim id fun h => absurd h (hng b z), .inl⟩
 let xi : KDt N := ⟨N.next (c.D i).s, (c.D i).kg, 8, N.fuel + 2, 0⟩
 let xk : KDt N := ⟨N.got (c.D k).s v, (c.D k).kg, 8, N.fuel + 2, 0⟩
 have hki : k ≠ i := Ne.symm hik
 have hDs : (fun x => (upd (upd c.D i xi) k xk x).s) = upd (upd (fun x => (c.D x).s) i (N.next (c.D i).s)) k (N.got (c.D k).s v) := by
   funext x; unfold upd; repeat' split
   all_goals rfl
 have hDg : (fun x => (upd (upd c.D i xi) k xk x).kg) = fun x => (c.D x).kg := by
   funext x; unfold upd
   split
   · rename_i e; subst e; rfl
   · split
     · rename_i e; subst e; rfl
     · rfl
 have hDt : (fun x => (upd (upd c.D i xi) k xk x).stage) = fun x => (c.D x).stage := by
   funext x; unfold upd
   split
   · rename_i e; subst e; exact hk8.symm
   · split
     · rename_i e; subst e; exact hi8.symm
     · rfl
 have hpk : ∀ x, (upd (upd c.D i xi) k xk x).stage = 8 → (upd (upd c.D i xi) k xk x).fuel = 0 → x ≠ i ∧ x ≠ k := fun x _ e0 => by
   refine ⟨fun e => ?_, fun e => ?_⟩
   · subst e
     rw [upd_ne _ _ hik, upd_same] at e0
     exact absurd e0 (by simp [xi])
   · subst e
     rw [upd_same] at e0
     exact absurd e0 (by simp [xk])
 have hoth : ∀ x, x ≠ i → x ≠ k → upd (upd c.D i xi) k xk x = c.D x := fun x h1 h2 => by rw [upd_ne _ _ h2, upd_ne _ _ h1]
 have hDi : upd (upd c.D i xi) k xk i = xi := by rw [upd_ne _ _ hik, upd_same]
 have hDk : upd (upd c.D i xi) k xk k = xk := upd_same _ _ _
 refine ⟨{ c with gs := gs', w := (c.w.at d).setChan y 0 #[] false (q + 1) (q + 1) false, sl := sl, D := upd (upd c.D i xi) k xk }, rfl, ?_, ?_⟩
 · show (_ ∨ _)
   left
   have e1 := kmu_upd hi c.D xi
   have e2 := kmu_upd hk (upd c.D i xi) xk
   rw [upd_ne _ _ hki] at e2
   have hl1 := hN.less _ _ hok
   have hl2 := hN.lessN (c.D i).s (by simp [hia]) (by simp [hia]) (by simp [hia])
   have h1 : kmu N xi + 64 ≤ kmu N (c.D i) := by simp only [kmu, xi, hi8]; omega
   have h2 : kmu N xk + 64 ≤ kmu N (c.D k) := by simp only [kmu, xk, hk8]; omega
   simp only [mu1, hDt]
   omega
 · obtain ⟨a, ha, hma⟩ := hI.main
   refine ⟨hsz.trans hI.size, ⟨a, by rw [hgo _ (by omega) (by omega)]; exact ha, hma.rely hMR (Agr.refl _ _)⟩, fun x hx => ?_, fun x z hx0 hxb hz => ?_, fun x hx => ?_, fun x hx => ?_, ?_, ?_, ?_, fun z b hz => ?_, ?_, ?_, fun x hx hsg => ?_, fun m' hm' => ?_, ⟨m₀, hm₀⟩, ?_, fun x hx e8 e0 z hz => ?_,
     fun x x' z w hx hx' e8 e0 e8' e0' hz => ?_, fun htg m hm x z w hx e8 e0 hz => ?_, fun b z hb => ?_⟩
   · by_cases hxi : x = i
     · subst hxi
       refine ⟨_, hgi, ?_⟩
       simp only [hDi, xi]
       refine .run fun o' ho => ?_
       have ho' : Ag c o' := by rw [hwsz] at ho; exact ho
       exact ((hO o' ho').2 _ (hKR o' ho' x hx)).2
     · by_cases hxk : x = k
       · subst hxk
         refine ⟨_, hgk, ?_⟩
         simp only [hDk, xk]
         refine .run fun o' ho => ?_
         have ho' : Ag c o' := by rw [hwsz] at ho; exact ho
         have hmsg := ((hO o' ho').2 _ (hKR o' ho' i hi)).1
         have := (hA o' ho').1 v _ (hKR o' ho' x hx) hok hmsg fun b z hz => ((hO o' ho').1 b z hz).elim
         rw [hGot] at this
         exact this
       · obtain ⟨z, hz, hsz'⟩ := hI.kids x hx
         refine ⟨z, by rw [hgo _ (by omega) (by omega)]; exact hz, ?_⟩
         simp only [hoth x hxi hxk]
         exact hsz'.rely (hKR c.o (Agr.refl _ _) x hx) (Agr.refl _ _)
   · have hz' : gs'[x]? = some z := hz
     rw [hgo _ (by omega) (by omega)] at hz'
     rw [hdf]
     exact hI.old x z hx0 hxb hz'
   · rw [hdf]; exact hI.above x hx
   · rw [hdf]
     by_cases hxi : x = i
     · subst hxi; simp only [hDi]; rw [hI.deafK x hx, hid]
     · by_cases hxk : x = k
       · subst hxk; simp only [hDk]; rw [hI.deafK x hx, hkd]
       · simp only [hoth x hxi hxk]; exact hI.deafK x hx
   · rw [hdf]; exact hI.deaf0
   · rw [hDg]
     show Gh Wg N.AB Shun c.o ((c.w.at d).setChan y 0 #[] false (q + 1) (q + 1) false).heap.size _ _ _ _ _
     rw [hwsz]
     exact hG
   · rw [hDg]
     show Tr Wg N.AB Shun c.o ((c.w.at d).setChan y 0 #[] false (q + 1) (q + 1) false).heap.size _ _ _ _ _ _ _ _
     rw [hwsz]
     exact (hI.tr.appN (fun op hop => (hu op hop).1) (fun op hop => (hu op hop).2.1)).nc hsame
   · show ∃ k, ((c.w.at d).setChan y 0 #[] false (q + 1) (q + 1) false).heap[z]? = _
     rw [at_chan]
     by_cases hzy : z = y
     · subst hzy
       have hz' : c.cl z = some b := hz
       rw [hcl] at hz'
       obtain rfl := Option.some.inj hz'
       exact ⟨q + 1, setChan_self hq⟩
     · rw [setChan_ne hzy]
       exact hI.chan z b hz
   · exact hI.wg.of_block (setChan_ne (w := c.w) hcy.2.2.1.symm)
   · rw [hDt]; exact hI.mode
   · have hst : (upd (upd c.D i xi) k xk x).stage = (c.D x).stage := congrFun hDt x
     rw [hst] at hsg
     exact (hI.rel x hx hsg).app fun op hop e => by
       have h1 : x ≠ i := fun e => by subst e; omega
       have h2 : x ≠ k := fun e => by subst e; omega
       rcases (hu op hop).2.2.2 with h | h <;> omega
   · rw [hDs]
     exact ⟨(hN.kmeet _ _ _ _ _ _ _ _ (hI.prot m' hm').1 hi hk hik hia hka).2, (hI.prot m' hm').2⟩
   · have := hI.t0; simp; omega
   · obtain ⟨h1, h2⟩ := hpk x e8 e0
     simp only [hoth x h1 h2] at e8 e0 hz
     exact hI.pOpen x hx e8 e0 z hz
   · obtain ⟨h1, h2⟩ := hpk x e8 e0
     obtain ⟨h1', h2'⟩ := hpk x' e8' e0'
     simp only [hoth x h1 h2] at e8 e0 hz
     simp only [hoth x' h1' h2'] at e8' e0' ⊢
     exact hI.pKK x x' z w hx hx' e8 e0 e8' e0' hz
   · obtain ⟨h1, h2⟩ := hpk x e8 e0
     simp only [hoth x h1 h2] at e8 e0 hz
     exact hI.pMK htg m hm x z w hx e8 e0 hz
   · rw [hDs]
     have e1 := hN.vNext c.j (fun k => (c.D k).s) i hi (by simp [hia]) (by simp [hia]) (by simp [hia]) b z hb
     have hfk : upd (fun x => (c.D x).s) i (N.next (c.D i).s) k = (c.D k).s := upd_ne _ _ hki
     have e2 := hN.vGot c.j (upd (fun x => (c.D x).s) i (N.next (c.D i).s)) k v hk (by rw [hfk]; exact hok) b z hb
     rw [hfk] at e2
     refine Eq.trans ?_ (congrArg some (e2.trans e1).symm)
     exact (cell?_eq (setChan_ne (w := c.w) (ab_ne hI ⟨z, hb⟩ (by rw [hcl]; simp))) z).trans (hI.cells b z hb)
end
section
variable {P : Program} {ty : TypeId} {Wg : Nat} {N : Net} {Shun : Nat → Prop} {base T0 : Nat}
theorem KSit.parkedR {o : Nat → Nat} {i : Nat} {s : N.S} {kg : KG} {st f d : Nat} {g : Goroutine} {w : World} (h : KSit P ty Wg N o i s kg st f d g w) (h8 : st = 8) (h0 : f = 0) {y : Nat} (ha : N.act s = .recv y) :
   ∃ g', g = parked (bare g') #[rcase y (N.zero s)] (N.shape s) ∧ d = 0 ∧ ∀ o', Agr w.heap.size o o' → ∀ w₁, KR ty Wg (ownK o' i) kg.Got kg.Rd w w₁ → KStop P ty Wg N (ownK o' i) s kg.Got kg.Rd g' w₁ := by
 cases h with
 | run _ => omega
 | wok _ => omega
 | pkR ha' h => rw [ha] at ha'; cases ha'; exact ⟨_, rfl, rfl, h⟩
 | pkS ha' h => rw [ha] at ha'; cases ha'
 | _ => omega
theorem KSit.parkedS {o : Nat → Nat} {i : Nat} {s : N.S} {kg : KG} {st f d : Nat} {g : Goroutine} {w : World} (h : KSit P ty Wg N o i s kg st f d g w) (h8 : st = 8) (h0 : f = 0) {y : Nat} {v : Value} (ha : N.act s = .send y v) :
   ∃ g', g = parked (bare g') #[scase y v (N.zero s)] .send ∧ d = 0 ∧ ∀ o', Agr w.heap.size o o' → ∀ w₁, KR ty Wg (ownK o' i) kg.Got kg.Rd w w₁ → KStop P ty Wg N (ownK o' i) s kg.Got kg.Rd g' w₁ := by
 cases h with
 | run _ => omega
 | wok _ => omega
 | pkR ha' h => rw [ha] at ha'; cases ha'
 | pkS ha' h => rw [ha] at ha'; cases ha'; exact ⟨_, rfl, rfl, h⟩
 | _ => omega
theorem KSit.parkedX {o : Nat → Nat} {i : Nat} {s : N.S} {kg : KG} {st f d : Nat} {g : Goroutine} {w : World} (hN : NetOK P ty Wg N) (h : KSit P ty Wg N o i s kg st f d g w) (hb : g.status = .blocked) : st = 8 ∧ f = 0 ∧ ((∃ y, N.act s = .recv y) ∨ ∃ y v, N.act s = .send y v) := by
 rcases h.status hN with ⟨x, _⟩ | ⟨_, h8, h0⟩ | ⟨x, _⟩
 · rw [hb] at x; cases x
 · refine ⟨h8, h0, ?_⟩
   cases h with
   | run _ => omega
   | wok _ => omega
   | pkR ha h => exact .inl ⟨_, ha⟩
   | pkS ha h => exact .inr ⟨_, _, ha⟩
   | _ => omega
 · rw [hb] at x; cases x
theorem MSit.parkedM {o : Nat → Nat} {Given : Cells} {Fz : Nat → Prop} {tag : MTag} {Q : N.M → Prop} {f d : Nat} {g : Goroutine} {w : World} (h : MSit P ty Wg N o Given Fz tag Q f d g w) (ht : tag = .pk) :
   ∃ m g' y v, Q m ∧ (∀ m', Q m' → m' = m) ∧ N.mact m = .send y v ∧ g = parked (bare g') #[scase y v (N.mzero m)] .send ∧ d = 0 ∧ ∀ o', Agr w.heap.size o o' → ∀ w₁, MR ty Wg (own0 o') Given w w₁ → MStop P ty Wg N (own0 o') m Given Fz g' w₁ := by
 cases h with
 | pk ha h => exact ⟨_, _, _, _, rfl, fun _ e => e, ha, rfl, rfl, h⟩
 | _ => cases ht
theorem offersAt_none {g : Goroutine} (h : g.offers = none) (y : Nat) (b : Bool) : offersAt g y b = [] := by
 unfold offersAt
 rw [h]
 cases g.status <;> rfl
theorem partner_of (hN : NetOK P ty Wg N) {c : Cf N} {t : Trace} (hI : Inv P ty Wg N Shun base T0 c t) {x y : Nat} {b : Bool} {j' k' : Nat} (h : (j', k') ∈ partners (c.gs.setIfInBounds x ph) y b) :
   k' = 0 ∧ j' ≠ x ∧ ((∃ k, j' = base + k ∧ k < c.j ∧ (c.D k).stage = 8 ∧ (c.D k).fuel = 0 ∧ ((b = true ∧ ∃ v, N.act (c.D k).s = .send y v) ∨ (b = false ∧ N.act (c.D k).s = .recv y))) ∨ (b = true ∧ j' = 0 ∧ c.tag = .pk ∧ ∃ m v, c.Q m ∧ N.mact m = .send y v)) := by
 obtain ⟨g, hg, hk⟩ := mem_partners.1 h
 rcases getElem?_stand c.gs x j' g hg with ⟨_, rfl⟩ | ⟨hne, hg'⟩
 · rw [offersAt_ph] at hk; cases hk
 have notb : g.status = .blocked := by
   by_cases e : g.status = .blocked
   · exact e
   · rw [offersAt_of_not_blocked e] at hk; cases hk
 rcases Nat.eq_zero_or_pos j' with rfl | hpos
 · obtain ⟨a, ha, hma⟩ := hI.main
   rw [ha] at hg'
   obtain rfl := Option.some.inj hg'
   rcases hma.status hN with ⟨e, _⟩ | ⟨_, ht | ht⟩
   · rw [notb] at e; cases e
   · obtain ⟨m, g', y', v, hQ, _, hm, rfl, _, _⟩ := hma.parkedM ht
     cases b with
     | false => rw [offersAt_parked_send'] at hk; cases hk
     | true =>
       rw [offersAt_parked_send] at hk
       split at hk
       · rename_i e; subst e
         refine ⟨by simpa using hk, hne, .inr ⟨rfl, rfl, ht, m, v, hQ, hm⟩⟩
       · cases hk
   · have : a.offers = none := by
       generalize c.tag = tg at hma ht
       generalize c.Q = Q at hma
       generalize c.f0 = f at hma
       generalize c.d0 = d at hma
       cases hma with
       | blk _ h => exact (h c.o (Agr.refl _ _) c.w (Rel.refl _)).2.1
       | _ => cases ht
     rw [offersAt_none this] at hk; cases hk
 · rcases Nat.lt_or_ge j' base with hlt | hge
   · have hq := hI.old j' g hpos hlt hg'
     rcases hq.status with e | e <;> rw [notb] at e <;> cases e
   · have hjs : j' < c.gs.size := (Array.getElem?_eq_some_iff.1 hg').1
     rw [hI.size] at hjs
     obtain ⟨k, rfl⟩ : ∃ k, j' = base + k := ⟨j' - base, by omega⟩
     have hkj : k < c.j := by omega
     obtain ⟨g₂, hg₂, hs⟩ := hI.kids k hkj
     rw [hg₂] at hg'
     obtain rfl := Option.some.inj hg'
     obtain ⟨h8, h0, hact⟩ := hs.parkedX hN notb
     rcases hact with ⟨z, hz⟩ | ⟨z, v, hz⟩
     · obtain ⟨g', rfl, _, _⟩ := hs.parkedR h8 h0 hz
       cases b with
       | true => rw [offersAt_parked_recv'] at hk; cases hk
       | false =>
         rw [offersAt_parked_recv] at hk
         split at hk
         · rename_i e; subst e
           exact ⟨by simpa using hk, hne, .inl ⟨k, rfl, hkj, h8, h0, .inr ⟨rfl, hz⟩⟩⟩
         · cases hk
     · obtain ⟨g', rfl, _, _⟩ := hs.parkedS h8 h0 hz
       cases b with
       | false => rw [offersAt_parked_send'] at hk; cases hk
       | true =>
         rw [offersAt_parked_send] at hk
         split at hk
         · rename_i e; subst e
           exact ⟨by simpa using hk, hne, .inl ⟨k, rfl, hkj, h8, h0, .inl ⟨rfl, v, hz⟩⟩⟩
         · cases hk
theorem none_parked {c : Cf N} {t : Trace} (hI : Inv P ty Wg N Shun base T0 c t) {x y : Nat} {b : Bool} (h : partners (c.gs.setIfInBounds x ph) y b = []) :
   (∀ k, k < c.j → base + k ≠ x → (c.D k).stage = 8 → (c.D k).fuel = 0 → (b = true → ∀ v, N.act (c.D k).s ≠ .send y v) ∧ (b = false → N.act (c.D k).s ≠ .recv y)) ∧ (b = true → 0 ≠ x → c.tag = .pk → ∀ m v, c.Q m → N.mact m ≠ .send y v) := by
 refine ⟨fun k hk hne h8 h0 => ⟨fun hb v ha => ?_, fun hb ha => ?_⟩, fun hb hne ht m v hQ hm => ?_⟩
 · obtain ⟨g, hg, hs⟩ := hI.kids k hk
   obtain ⟨g', rfl, _⟩ := hs.parkedS h8 h0 ha
   have : (base + k, 0) ∈ partners (c.gs.setIfInBounds x ph) y b := mem_partners.2 ⟨_, stand_get hne hg, by rw [hb, offersAt_parked_send]; simp⟩
   rw [h] at this; cases this
 · obtain ⟨g, hg, hs⟩ := hI.kids k hk
   obtain ⟨g', rfl, _⟩ := hs.parkedR h8 h0 ha
   have : (base + k, 0) ∈ partners (c.gs.setIfInBounds x ph) y b := mem_partners.2 ⟨_, stand_get hne hg, by rw [hb, offersAt_parked_recv]; simp⟩
   rw [h] at this; cases this
 · obtain ⟨a, ha, hma⟩ := hI.main
   obtain ⟨m', g', y', v', hQ', hu, hm', rfl, _⟩ := hma.parkedM ht
   obtain rfl := hu m hQ
   rw [hm] at hm'
   cases hm'
   have : (0, 0) ∈ partners (c.gs.setIfInBounds x ph) y b := mem_partners.2 ⟨_, stand_get hne ha, by rw [hb, offersAt_parked_send]; simp⟩
   rw [h] at this; cases this
theorem kid_self {c : Cf N} {t : Trace} (hI : Inv P ty Wg N Shun base T0 c t) {i : Nat} (hi : i < c.j) {x : KDt N} (hx8 : x.stage = 8) (hi8 : (c.D i).stage = 8) (hxd : x.deaf = (c.D i).deaf) (hkg : x.kg = (c.D i).kg) {g' : Goroutine} {u : Array MemOp} {sl : Option (Nat × Nat)}
   (hsit : KSit P ty Wg N c.o i x.s x.kg 8 x.fuel x.deaf g' c.w) (hu : Meet (base + i) (base + i) u) (hb : 0 < base) (hprot : ∀ m, c.Q m → N.I m c.j (upd (fun k => (c.D k).s) i x.s) c.cl) (hval : ∀ b y, N.cel b y → N.val c.j (upd (fun k => (c.D k).s) i x.s) b y = N.val c.j (fun k => (c.D k).s) b y) (hless : N.muS x.s < N.muS (c.D i).s ∨ (x.s = (c.D i).s ∧ x.fuel < (c.D i).fuel))
   (hp : x.fuel = 0 → (∀ y, N.act x.s = .recv y → c.cl y = some false ∧ (∀ k, k < c.j → k ≠ i → (c.D k).stage = 8 → (c.D k).fuel = 0 → ∀ v, N.act (c.D k).s ≠ .send y v) ∧ (c.tag = .pk → ∀ m, c.Q m → ∀ v, N.mact m ≠ .send y v)) ∧
     ∀ y v, N.act x.s = .send y v → ∀ k, k < c.j → k ≠ i → (c.D k).stage = 8 → (c.D k).fuel = 0 → N.act (c.D k).s ≠ .recv y) :
   Onward P ty Wg N Shun base T0 c t (.next (crowd (c.gs.setIfInBounds (base + i) g') c.w sl), u) := by
 have hszg : base + i < c.gs.size := by rw [hI.size]; omega
 have hdf : ∀ k, Deaf (t ++ u) k = Deaf t k := fun k => Deaf_flat (fun op hop => (hu op hop).2.2.1) k
 have hDs : (fun k => (upd c.D i x k).s) = upd (fun k => (c.D k).s) i x.s := by
   funext k; unfold upd; split <;> rfl
 have hDg : (fun k => (upd c.D i x k).kg) = fun k => (c.D k).kg := by
   funext k; unfold upd; split
   · rename_i e; subst e; exact hkg
   · rfl
 have hDt : (fun k => (upd c.D i x k).stage) = fun k => (c.D k).stage := stage_same (hx8.trans hi8.symm)
 obtain ⟨a, ha, hma⟩ := hI.main
 refine ⟨{ c with gs := c.gs.setIfInBounds (base + i) g', sl := sl, D := upd c.D i x }, rfl, ?_, ?_⟩
 · show (_ ∨ _)
   have e1 := kmu_upd hi c.D x
   have e2 := fuel_upd hi c.D x
   simp only [mu1, mu2, hDt]
   rcases hless with h | ⟨h1, h2⟩
   · left
     have : kmu N x < kmu N (c.D i) := by simp only [kmu, hx8, hi8]; omega
     omega
   · right
     have : kmu N x = kmu N (c.D i) := by simp only [kmu, hx8, hi8, h1]
     omega
 · refine ⟨by simp [hI.size], ⟨a, by rw [Array.getElem?_setIfInBounds_ne (by omega)]; exact ha, hma⟩, fun k hk => ?_, fun k z hk0 hkb hz => ?_, fun k hk => ?_, fun k hk => ?_, ?_, ?_, ?_, hI.chan, hI.wg, ?_, fun k hk hsg => ?_, fun m hm => ⟨by rw [hDs]; exact hprot m hm, (hI.prot m hm).2⟩, hI.ex, ?_, fun k hk h8 h0 y hy => ?_,
     fun k k' y v hk hk' h8 h0 h8' h0' hy => ?_, fun htg m hm k y v hk h8 h0 hy => ?_, fun b y hb => by rw [hDs]; exact (hI.cells b y hb).trans (congrArg some (hval b y hb).symm)⟩
   · by_cases hki : k = i
     · subst hki
       refine ⟨g', by simp [hszg], ?_⟩
       simp only [upd_same, hx8]
       exact hsit
     · obtain ⟨z, hz, hs⟩ := hI.kids k hk
       refine ⟨z, by rw [Array.getElem?_setIfInBounds_ne (by omega)]; exact hz, ?_⟩
       simp only [upd_ne _ _ hki]
       exact hs
   · have hz' : (c.gs.setIfInBounds (base + i) g')[k]? = some z := hz
     rw [Array.getElem?_setIfInBounds_ne (by omega)] at hz'
     rw [hdf]; exact hI.old k z hk0 hkb hz'
   · rw [hdf]; exact hI.above k hk
   · rw [hdf]
     by_cases hki : k = i
     · subst hki; simp only [upd_same]; rw [hI.deafK k hk, hxd]
     · simp only [upd_ne _ _ hki]; exact hI.deafK k hk
   · rw [hdf]; exact hI.deaf0
   · rw [hDg]; exact hI.gh
   · rw [hDg]; exact hI.tr.appN (fun op hop => (hu op hop).1) (fun op hop => (hu op hop).2.1)
   · rw [hDt]; exact hI.mode
   · have hst : (upd c.D i x k).stage = (c.D k).stage := congrFun hDt k
     rw [hst] at hsg
     exact (hI.rel k hk hsg).app fun op hop e => by
       have hki : k ≠ i := fun e => by subst e; omega
       rcases (hu op hop).2.2.2 with h | h <;> omega
   · have := hI.t0; simp; omega
   · by_cases hki : k = i
     · subst hki
       simp only [upd_same] at h0 hy
       exact ((hp h0).1 y hy).1
     · simp only [upd_ne _ _ hki] at h8 h0 hy
       exact hI.pOpen k hk h8 h0 y hy
   · by_cases hki : k = i
     · subst hki
       simp only [upd_same] at h0 hy
       by_cases hki' : k' = k
       · subst hki'; simp only [upd_same]; rw [hy]; simp
       · simp only [upd_ne _ _ hki'] at h8' h0' ⊢
         exact ((hp h0).1 y hy).2.1 k' hk' hki' h8' h0' v
     · simp only [upd_ne _ _ hki] at h8 h0 hy
       by_cases hki' : k' = i
       · subst hki'
         simp only [upd_same] at h0' ⊢
         exact fun e => (hp h0').2 y v e k hk hki h8 h0 hy
       · simp only [upd_ne _ _ hki'] at h8' h0' ⊢
         exact hI.pKK k k' y v hk hk' h8 h0 h8' h0' hy
   · by_cases hki : k = i
     · subst hki
       simp only [upd_same] at h0 hy
       exact ((hp h0).1 y hy).2.2 htg m hm v
     · simp only [upd_ne _ _ hki] at h8 h0 hy
       exact hI.pMK htg m hm k y v hk h8 h0 hy
theorem parked_fin {g g₂ : Goroutine} {cs cs' : Array CommCase} {sh sh' : CommShape} (h : parked g cs sh = parked g₂ cs' sh') (cs₁ : Array CommCase) (sh₁ : CommShape) (k : Int) (v : Value) (ok : Bool) : cs = cs' ∧ sh = sh' ∧ g.finishComm P cs₁ sh₁ k v ok = g₂.finishComm P cs₁ sh₁ k v ok := by
 unfold parked at h
 simp only [Goroutine.mk.injEq, true_and, Option.some.injEq, Prod.mk.injEq] at h
 obtain ⟨h1, h2, h3, h4, h5⟩ := h
 refine ⟨h4, h5, ?_⟩
 unfold Goroutine.finishComm
 rw [h1, h2, h3]
theorem meet_ops {x y : Nat} {fx fy : FuncId} {px py : String} {c k cap : Nat} : Meet x y #[{ g := x, fn := fx, pos := px, act := .send c k }, { g := y, fn := fy, pos := py, act := .recv c k cap }, { g := x, fn := fx, pos := px, act := .sendDone c k }, { g := y, fn := fy, pos := py, act := .recvDone c k }] := by
 intro op hop
 simp only [List.mem_toArray, List.mem_cons, List.not_mem_nil, or_false] at hop
 rcases hop with rfl | rfl | rfl | rfl <;> simp [MemAct.touch?]
theorem meet_knows {x y : Nat} {fx fy : FuncId} {px py : String} {c k cap : Nat} {t : Trace} {i : Nat} (dx : Deaf t x = 0) (dy : Deaf t y = 0) (h : Knows t x i) :
   Knows (t ++ #[{ g := x, fn := fx, pos := px, act := .send c k }, { g := y, fn := fy, pos := py, act := .recv c k cap }, { g := x, fn := fx, pos := px, act := .sendDone c k }, { g := y, fn := fy, pos := py, act := .recvDone c k }]) y i :=
 hand_knows (u := #[{ g := x, fn := fx, pos := px, act := .send c k }, { g := y, fn := fy, pos := py, act := .recv c k cap }, { g := x, fn := fx, pos := px, act := .sendDone c k }, { g := y, fn := fy, pos := py, act := .recvDone c k }]) (fun op hop => (meet_ops op hop).2.2.1) (p := 0) (q := 3)
   (x := { g := x, fn := fx, pos := px, act := .send c k }) (y := { g := y, fn := fy, pos := py, act := .recvDone c k }) rfl rfl rfl rfl dx dy h
end
end Go.Proofs.Ytblpmdolclalnaa
