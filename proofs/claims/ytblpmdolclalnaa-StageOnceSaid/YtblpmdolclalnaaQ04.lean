/- The invariant of the machine while a net is at work, its measure, and what a step of a child or of goroutine 0 that is its own does to it. Steps of the machine while a net is at work: what a child, goroutine 0, an old goroutine does by itself keeps the invariant and lowers the measure. Steps of a child that has said, or says, its Done; steps of an old goroutine that only leaves. -/
import Derived.Test.YtblpmdolclalnaaQ03
set_option maxHeartbeats 16000000
set_option linter.unusedSimpArgs false
set_option linter.unusedVariables false
namespace Go.Proofs.Ytblpmdolclalnaa
open Go.Conc
open Go.ConcR (WgAt KK stA smA rd wr mk DC0)
open Go.ConcN (WgLive sumTo upd upd_same upd_ne sumTo_upd sumTo_congr RelBy)
structure KDt (N : Net) where
 s : N.S
 kg : KG
 stage : Nat
 fuel : Nat
 deaf : Nat
def cnt (st : Nat) : Nat := if 5 ≤ st then 1 else 0
def Vc (j : Nat) (sg : Nat → Nat) : Nat := sumTo j fun i => cnt (sg i)
def pend : MTag → Nat
 | .ke | .go => 1
 | _ => 0
def isOpen : MTag → Prop
 | .run | .pk | .a1 | .ke | .go | .anch | .w1 | .w2 _ => True
 | _ => False
def isW3 : MTag → Prop
 | .w3 | .blk => True
 | _ => False
def isFin : MTag → Prop
 | .w4 | .kw | .acq => True
 | _ => False
inductive Mode (j : Nat) (sg : Nat → Nat) : MTag → Int → Int → Prop
 | opn {tag : MTag} : isOpen tag → (∀ i, i < j → sg i = 8 ∨ sg i = 6 ∨ sg i = 5 ∨ sg i = 1) → (∀ vs, tag = .w2 vs → Vc j sg ≤ vs ∧ 1 ≤ vs) → Mode j sg tag (((Vc j sg + pend tag : Nat) : Int) * KK) 0
 | reg {tag : MTag} : isW3 tag → (∀ i, i < j → sg i = 8 ∨ sg i = 6 ∨ sg i = 5 ∨ sg i = 1) → 1 ≤ Vc j sg → Mode j sg tag (((Vc j sg : Nat) : Int) * KK + 1) 0
 | last {tag : MTag} (L : Nat) : isW3 tag → L < j → (sg L = 4 ∨ sg L = 3 ∨ sg L = 2) → (∀ i, i < j → i ≠ L → sg i = 1) → Mode j sg tag (if sg L = 2 then 0 else 1) 0
 | sema : (∀ i, i < j → sg i = 1) → Mode j sg .w3 0 1
 | fin {tag : MTag} : isFin tag → (∀ i, i < j → sg i = 1) → Mode j sg tag 0 0
def phi (j V B : Nat) : MTag → Nat
 | .run | .pk => 64 * B + 8 * j + 20
 | .a1 => 64 * B + 8 * j + 19
 | .ke => 64 * B + 8 * j + 18
 | .go => 64 * B + 8 * j + 17
 | .anch => 8 * V + 6
 | .w1 => 8 * V + 5
 | .w2 vs => 8 * vs + 4
 | .w3 | .blk => 5
 | .w4 => 4
 | .kw => 3
 | .acq => 2
structure Cf (N : Net) where
 gs : Array Goroutine
 w : World
 sl : Option (Nat × Nat)
 o : Nat → Nat
 Given : Cells
 Fz : Nat → Prop
 cl : Nat → Option Bool
 j : Nat
 D : Nat → KDt N
 tag : MTag
 Q : N.M → Prop
 B : Nat
 f0 : Nat
 d0 : Nat
 st : Int
 sm : Int
 q : Nat → Nat
def kmu (N : Net) (x : KDt N) : Nat := 64 * N.muS x.s + x.stage
def mu1 {N : Net} (c : Cf N) : Nat := phi c.j (Vc c.j fun i => (c.D i).stage) c.B c.tag + sumTo c.j fun i => kmu N (c.D i)
def mu2 {N : Net} (base : Nat) (c : Cf N) : Nat := c.f0 + 2 * (sumTo c.j fun i => (c.D i).fuel) + 2 * sumTo base c.q
def Less {N : Net} (base : Nat) (c' c : Cf N) : Prop := mu1 c' < mu1 c ∨ (mu1 c' = mu1 c ∧ mu2 base c' < mu2 base c)
def Rels (Wg T0 : Nat) (t : Trace) (k : Nat) : Prop := ∃ r, T0 ≤ r ∧ r < t.size ∧ RelBy (stA Wg) t k r ∧ ∀ x a, r < x → t.g? x = some k → touchAt t x = some a → (∃ ad : Addr, a.loc = .cell ad ∧ ad.block = Wg) ∧ a.kind = .atomic
section
variable (P : Program) (ty : TypeId) (Wg : Nat) (N : Net) (Shun : Nat → Prop) (base T0 : Nat)
structure Inv (c : Cf N) (t : Trace) : Prop where
 size : c.gs.size = base + c.j
 main : ∃ a, c.gs[0]? = some a ∧ MSit P ty Wg N c.o c.Given c.Fz c.tag c.Q c.f0 c.d0 a c.w
 kids : ∀ i, i < c.j → ∃ g, c.gs[base + i]? = some g ∧ KSit P ty Wg N c.o i (c.D i).s (c.D i).kg (c.D i).stage (c.D i).fuel (c.D i).deaf g c.w
 old : ∀ i g, 0 < i → i < base → c.gs[i]? = some g → QuitsD P (c.q i) (Deaf t i) g
 above : ∀ i, base + c.j ≤ i → Deaf t i = 0
 deafK : ∀ i, i < c.j → Deaf t (base + i) = (c.D i).deaf
 deaf0 : Deaf t 0 = c.d0
 gh : Gh Wg N.AB Shun c.o c.w.heap.size c.Given c.Fz (fun x => c.cl x ≠ none) c.j (fun i => (c.D i).kg)
 tr : Tr Wg N.AB Shun c.o c.w.heap.size c.Given c.Fz base c.j (fun i => (c.D i).kg) T0 (Nc c.w) t
 chan : ∀ x b, c.cl x = some b → ∃ k, c.w.heap[x]? = some (.chan 0 #[] b k k false)
 wg : WgAt ty Wg c.w c.st c.sm
 mode : Mode c.j (fun i => (c.D i).stage) c.tag c.st c.sm
 rel : ∀ i, i < c.j → (c.D i).stage ≤ 6 → Rels Wg T0 t (base + i)
 prot : ∀ m, c.Q m → N.I m c.j (fun i => (c.D i).s) c.cl ∧ N.muM m ≤ c.B
 ex : ∃ m, c.Q m
 t0 : T0 ≤ t.size
 pOpen : ∀ i, i < c.j → (c.D i).stage = 8 → (c.D i).fuel = 0 → ∀ x, N.act (c.D i).s = .recv x → c.cl x = some false
 pKK : ∀ i k x v, i < c.j → k < c.j → (c.D i).stage = 8 → (c.D i).fuel = 0 → (c.D k).stage = 8 → (c.D k).fuel = 0 → N.act (c.D i).s = .recv x → N.act (c.D k).s ≠ .send x v
 pMK : c.tag = .pk → ∀ m, c.Q m → ∀ i x v, i < c.j → (c.D i).stage = 8 → (c.D i).fuel = 0 → N.act (c.D i).s = .recv x → N.mact m ≠ .send x v
 cells : ∀ b y, N.cel b y → c.w.cell? ⟨b, y, none⟩ = some (N.val c.j (fun i => (c.D i).s) b y)
end
def Onward (P : Program) (ty : TypeId) (Wg : Nat) (N : Net) (Shun : Nat → Prop) (base T0 : Nat) (c : Cf N) (t : Trace) (r : Stepped × Array MemOp) : Prop :=
 ∃ c' : Cf N, r.1 = .next (crowd c'.gs c'.w c'.sl) ∧ Less base c' c ∧ Inv P ty Wg N Shun base T0 c' (t ++ r.2)
theorem Rels.app {Wg T0 : Nat} {t u : Trace} {k : Nat} (h : Rels Wg T0 t k) (hu : ∀ op ∈ u, op.g ≠ k) : Rels Wg T0 (t ++ u) k := by
 obtain ⟨r, h0, h1, h2, h3⟩ := h
 refine ⟨r, h0, by simp; omega, h2.app (fun i hi hg => ?_), fun x a hx hg ha => ?_⟩
 · obtain ⟨op, ho, hog⟩ := Option.map_eq_some_iff.1 hg
   rcases getElem?_append_cases ho with ⟨hlt, _⟩ | ⟨_, hm⟩
   · omega
   · exact absurd hog (hu op hm)
 · rcases touchAt_app ha with ⟨hlt, ha'⟩ | ⟨_, op, hop, hio, _⟩
   · exact h3 x a hx (by rw [← g?_old (u := u) hlt]; exact hg) ha'
   · have : op.g = k := by simpa [Trace.g?, hio] using hg
     exact absurd this (hu op hop)
section
variable {P : Program} {ty : TypeId} {Wg : Nat} {N : Net} {o : Nat → Nat} {i : Nat} {s : N.S} {kg : KG} {st f d : Nat} {g : Goroutine} {w : World} {Given : Cells} {Fz : Nat → Prop} {tag : MTag} {Q : N.M → Prop}
theorem KSit.status (hN : NetOK P ty Wg N) (h : KSit P ty Wg N o i s kg st f d g w) : (g.status = .running ∧ (st = 8 → 0 < f)) ∨ (g.status = .blocked ∧ st = 8 ∧ f = 0) ∨ (g.status = .finished ∧ st = 1) := by
 have r : ∀ {Stop : Goroutine → World → Prop} {m : Nat}, (∀ g w, Stop g w → g.status = .running) → Goes P false (RL ty Wg) DC0 Stop m g w → g.status = .running := fun hS h => Goes.running hS w (fun x => x) h
 cases h with
 | run h => exact .inl ⟨Goo.running (fun a => Rel.refl a) (fun g w x => (hN.kid _ _ _ _ _ _ x).1) (h o (Agr.refl _ _)), fun _ => by omega⟩
 | wok h => exact .inl ⟨(h o (Agr.refl _ _) w (Rel.refl w)).1, fun _ => by omega⟩
 | pkR _ _ => exact .inr (.inl ⟨rfl, rfl, rfl⟩)
 | pkS _ _ => exact .inr (.inl ⟨rfl, rfl, rfl⟩)
 | k1 _ _ h => exact .inl ⟨r (fun _ _ x => x.1) h, fun e => by omega⟩
 | d1 _ _ h => exact .inl ⟨r (fun _ _ x => x.1) h, fun e => by omega⟩
 | d2 _ _ h => exact .inl ⟨r (fun _ _ x => x.1) h, fun e => by omega⟩
 | d3 _ _ h => exact .inl ⟨r (fun _ _ x => x.1) h, fun e => by omega⟩
 | d4 _ _ h => exact .inl ⟨r (fun _ _ x => x.1) h, fun e => by omega⟩
 | quit _ _ h => exact h.status.elim (fun x => .inl ⟨x, fun e => by omega⟩) (fun x => .inr (.inr ⟨x, rfl⟩))
theorem MSit.status (hN : NetOK P ty Wg N) (h : MSit P ty Wg N o Given Fz tag Q f d g w) : (g.status = .running ∧ tag ≠ .pk ∧ tag ≠ .blk) ∨ (g.status = .blocked ∧ (tag = .pk ∨ tag = .blk)) := by
 have r : ∀ {Stop : Goroutine → World → Prop} {m : Nat}, (∀ g w, Stop g w → g.status = .running) → MGoo P ty Wg (own0 o) Given Fz Stop m g w → g.status = .running := fun hS h => Goo.running (fun a => Rel.refl a) hS h
 cases h with
 | run h => exact .inl ⟨r (fun g w ⟨m, _, x⟩ => (hN.main _ _ _ _ _ _ x).1) (h o (Agr.refl _ _)), by simp, by simp⟩
 | pk _ _ => exact .inr ⟨rfl, .inl rfl⟩
 | a1 _ h => exact .inl ⟨r (fun _ _ x => x.1) (h o (Agr.refl _ _)), by simp, by simp⟩
 | ke _ h => exact .inl ⟨r (fun _ _ x => x.1) (h o (Agr.refl _ _)), by simp, by simp⟩
 | go _ h => exact .inl ⟨r (fun _ _ x => x.1) (h o (Agr.refl _ _)), by simp, by simp⟩
 | anch _ h => exact .inl ⟨r (fun _ _ x => (hN.anch _ _ _ _ _ _ x).1) (h o (Agr.refl _ _)), by simp, by simp⟩
 | w1 _ h => exact .inl ⟨r (fun _ _ x => x.1) (h o (Agr.refl _ _)), by simp, by simp⟩
 | w2 _ h => exact .inl ⟨r (fun _ _ x => x.1) (h o (Agr.refl _ _)), by simp, by simp⟩
 | w3 _ h => exact .inl ⟨r (fun _ _ x => x.1) (h o (Agr.refl _ _)), by simp, by simp⟩
 | blk _ _ => exact .inr ⟨rfl, .inr rfl⟩
 | w4 _ h => exact .inl ⟨r (fun _ _ x => x.1) (h o (Agr.refl _ _)), by simp, by simp⟩
 | kw _ h => exact .inl ⟨r (fun _ _ x => x.1) (h o (Agr.refl _ _)), by simp, by simp⟩
 | acq _ h => exact .inl ⟨r (fun _ _ x => x.1) (h o (Agr.refl _ _)), by simp, by simp⟩
theorem KSit.woken (hN : NetOK P ty Wg N) (h : KSit P ty Wg N o i s kg st f d g w) (x x' : Goroutine)
   (hc : st = 8 → f = 0 → ∀ c, (N.act s = .recv c ∨ ∃ v, N.act s = .send c v) → ∃ k, w.heap[c]? = some (.chan 0 #[] false k k false)) : Go.Conc.woken P x x' w g = g := by
 have hs := h.status hN
 cases h with
 | pkR ha _ => obtain ⟨k, hk⟩ := hc rfl rfl _ (.inl ha); exact woken_recv_open x x' hk
 | pkS ha _ => obtain ⟨k, hk⟩ := hc rfl rfl _ (.inr ⟨_, ha⟩); exact woken_send_open x x' hk
 | _ =>
   unfold Go.Conc.woken
   split
   · refine again_running _ ?_
     rcases hs with ⟨y, _⟩ | ⟨_, y, z⟩ | ⟨y, _⟩
     · exact .inl y
     · first | omega | simp at z | simp at y
     · exact .inr y
   · rfl
theorem MSit.wokenBy (hN : NetOK P ty Wg N) (h : MSit P ty Wg N o Given Fz tag Q f d g w) (x x' : Goroutine)
   (hc : tag = .pk → ∀ m c v, Q m → N.mact m = .send c v → ∃ k, w.heap[c]? = some (.chan 0 #[] false k k false)) :
   ∃ tag' f', MSit P ty Wg N o Given Fz tag' Q f' d (Go.Conc.woken P x x' w g) w ∧ f' ≤ f + 1 ∧ (tag' = tag ∨ (tag = .blk ∧ tag' = .w3)) ∧ (mayWake P x = true → x'.status = .running → tag' ≠ .blk) ∧ (tag' = tag → f' = f) := by
 have hs := h.status hN
 have still : (∀ c, tag ≠ .blk → g.status ≠ .blocked → Go.Conc.woken P x x' c g = g) := fun c h1 h2 => by
   rcases hs with ⟨y, _⟩ | ⟨y, _⟩
   · exact woken_run y
   · exact absurd y h2
 cases h with
 | pk ha h =>
   obtain ⟨k, hk⟩ := hc rfl _ _ _ rfl ha
   refine ⟨_, _, ?_, by omega, .inl rfl, by simp, fun _ => rfl⟩
   rw [woken_send_open x x' hk]
   exact .pk ha h
 | @blk m g' w ha h =>
   by_cases hw : Go.Conc.woken P x x' w { g' with status := .blocked } = { g' with status := .blocked }
   · refine ⟨.blk, _, by rw [hw]; exact .blk ha h, by omega, .inl rfl, fun h1 h2 => ?_, fun _ => rfl⟩
     exfalso
     have ho : g'.offers = none := (h o (Agr.refl _ _) w (Rel.refl w)).2.1
     unfold Go.Conc.woken at hw
     rw [if_pos (by simp [h1, h2])] at hw
     have : (Goroutine.again w { g' with status := .blocked }).status = .running := by simp [Goroutine.again, ho]
     rw [hw] at this
     cases this
   · have e : Go.Conc.woken P x x' w { g' with status := .blocked } = g' := by
       have ho : g'.offers = none := (h o (Agr.refl _ _) w (Rel.refl w)).2.1
       have hr : g'.status = .running := (h o (Agr.refl _ _) w (Rel.refl w)).1
       unfold Go.Conc.woken at hw ⊢
       split at hw
       · rename_i hcond
         rw [if_pos hcond]
         simp only [Goroutine.again, ho]
         cases g'
         simp_all
       · exact absurd rfl hw
     refine ⟨.w3, 1, by rw [e]; exact .w3 (f := 0) ha fun o' h' => h o' h', by omega, .inr ⟨rfl, rfl⟩, by simp, by simp⟩
 | run h => exact ⟨_, _, by rw [still _ (by simp) (by rcases hs with ⟨y, _⟩ | ⟨_, y⟩ <;> simp_all)]; exact .run h, by omega, .inl rfl, by simp, fun _ => rfl⟩
 | a1 ha h => exact ⟨_, _, by rw [still _ (by simp) (by rcases hs with ⟨y, _⟩ | ⟨_, y⟩ <;> simp_all)]; exact .a1 ha h, by omega, .inl rfl, by simp, fun _ => rfl⟩
 | ke ha h => exact ⟨_, _, by rw [still _ (by simp) (by rcases hs with ⟨y, _⟩ | ⟨_, y⟩ <;> simp_all)]; exact .ke ha h, by omega, .inl rfl, by simp, fun _ => rfl⟩
 | go ha h => exact ⟨_, _, by rw [still _ (by simp) (by rcases hs with ⟨y, _⟩ | ⟨_, y⟩ <;> simp_all)]; exact .go ha h, by omega, .inl rfl, by simp, fun _ => rfl⟩
 | anch ha h => exact ⟨_, _, by rw [still _ (by simp) (by rcases hs with ⟨y, _⟩ | ⟨_, y⟩ <;> simp_all)]; exact .anch ha h, by omega, .inl rfl, by simp, fun _ => rfl⟩
 | w1 ha h => exact ⟨_, _, by rw [still _ (by simp) (by rcases hs with ⟨y, _⟩ | ⟨_, y⟩ <;> simp_all)]; exact .w1 ha h, by omega, .inl rfl, by simp, fun _ => rfl⟩
 | w2 ha h => exact ⟨_, _, by rw [still _ (by simp) (by rcases hs with ⟨y, _⟩ | ⟨_, y⟩ <;> simp_all)]; exact .w2 ha h, by omega, .inl rfl, by simp, fun _ => rfl⟩
 | w3 ha h => exact ⟨_, _, by rw [still _ (by simp) (by rcases hs with ⟨y, _⟩ | ⟨_, y⟩ <;> simp_all)]; exact .w3 ha h, by omega, .inl rfl, by simp, fun _ => rfl⟩
 | w4 ha h => exact ⟨_, _, by rw [still _ (by simp) (by rcases hs with ⟨y, _⟩ | ⟨_, y⟩ <;> simp_all)]; exact .w4 ha h, by omega, .inl rfl, by simp, fun _ => rfl⟩
 | kw ha h => exact ⟨_, _, by rw [still _ (by simp) (by rcases hs with ⟨y, _⟩ | ⟨_, y⟩ <;> simp_all)]; exact .kw ha h, by omega, .inl rfl, by simp, fun _ => rfl⟩
 | acq ha h => exact ⟨_, _, by rw [still _ (by simp) (by rcases hs with ⟨y, _⟩ | ⟨_, y⟩ <;> simp_all)]; exact .acq ha h, by omega, .inl rfl, by simp, fun _ => rfl⟩
end
end Go.Proofs.Ytblpmdolclalnaa
namespace Go.Proofs.Ytblpmdolclalnaa
open Go.Conc
open Go.ConcR (WgAt KK stA smA rd wr mk DC0 deafBehind_cons deafBehind_one)
open Go.ConcN (WgLive sumTo upd upd_same upd_ne sumTo_upd sumTo_congr RelBy)
section
variable {P : Program} {ty : TypeId} {Wg : Nat} {N : Net} {Shun : Nat → Prop} {base T0 : Nat}
theorem Gh.grow {o o₁ : Nat → Nat} {n n' j : Nat} {Given : Cells} {Fz Ch : Nat → Prop} {D : Nat → KG} (h : Gh Wg N.AB Shun o n Given Fz Ch j D) (ha : Agr n o o₁) (hn : n ≤ n') (hnew : ∀ b, n ≤ b → b < n' → o₁ b ≤ j) : Gh Wg N.AB Shun o₁ n' Given Fz Ch j D := by
 refine ⟨⟨by have := h.wg.1; omega, (ha _ h.wg.1).trans h.wg.2.1, h.wg.2.2⟩, fun b hb => (let ⟨⟨h1, h2, h3⟩, h4⟩ := h.ab b hb; ⟨⟨Nat.lt_of_lt_of_le h1 hn, (ha _ h1).trans h2, h3⟩, h4⟩), fun b hb => ⟨by have := (h.shun b hb).1; omega, (ha _ (h.shun b hb).1).trans (h.shun b hb).2.1, (h.shun b hb).2.2⟩, fun b hb => ⟨by have := (h.fz b hb).1; omega, (ha _ (h.fz b hb).1).trans (h.fz b hb).2.1, (h.fz b hb).2.2⟩,
   fun c hc => ⟨by have := (h.ch c hc).1; omega, (ha _ (h.ch c hc).1).trans (h.ch c hc).2.1, (h.ch c hc).2.2⟩, fun b x hb => ⟨by have := (h.given b x hb).1; omega, (ha _ (h.given b x hb).1).trans (h.given b x hb).2⟩, h.got, h.rd, h.apart, fun b hb => ?_⟩
 rcases Nat.lt_or_ge b n with hlt | hge
 · rw [ha b hlt]; exact h.mine b hlt
 · exact hnew b hge hb
theorem Tr.agr {o o₁ : Nat → Nat} {n j : Nat} {Given : Cells} {Fz : Nat → Prop} {D : Nat → KG} {NC : Nat → Prop} {t : Trace} (h : Tr Wg N.AB Shun o n Given Fz base j D T0 NC t) (ha : Agr n o o₁) : Tr Wg N.AB Shun o₁ n Given Fz base j D T0 NC t :=
 ⟨h.clean, h.seen, h.seenO, fun a hlt ho => h.main a hlt (by rw [← ha _ hlt]; exact ho), fun i hi a hlt => ⟨fun ho => (h.kid i hi a hlt).1 (by rw [← ha _ hlt]; exact ho), (h.kid i hi a hlt).2⟩, h.sh, h.ob, h.acc, h.over, h.norel⟩
theorem get_map_set (gs : Array Goroutine) (f : Goroutine → Goroutine) (i k : Nat) (x : Goroutine) (h : k ≠ i) : ((gs.map f).setIfInBounds i x)[k]? = (gs[k]?).map f := by
 rw [Array.getElem?_setIfInBounds_ne (fun e => h e.symm), Array.getElem?_map]
theorem get_map_set_same (gs : Array Goroutine) (f : Goroutine → Goroutine) (i : Nat) (x : Goroutine) (h : i < gs.size) : ((gs.map f).setIfInBounds i x)[i]? = some x := by
 simp [h]
theorem okK_of {AB : Nat → Prop} {o : Nat → Nat} {n n' i : Nat} {NC : Nat → Prop} {kg : KG} {fn : FuncId} {pos : String} {g : Nat} {es : Array Event} (hgot : ∀ b x, kg.Got b x → b < n) (hrd : ∀ b, kg.Rd b → b < n) (hnew : ∀ b, n ≤ b → b < n' → o b = i + 1)
   (h : ∀ e ∈ es, EvOK false Wg (writK (ownK o i) kg.Got) (keepK (ownK o i) kg.Got kg.Rd) n n' NC e) : ∀ op ∈ MemOp.ofEvents g fn pos es, ∀ b, op.act.touch? = some b → OkK Wg AB o n n' NC kg i b := by
 intro op hop b hb
 obtain ⟨e, he, rfl⟩ := Go.Conc.mem_ofEvents hop
 rcases h e he with ⟨a, wr, sy, rfl, _, hlt, hw⟩ | ⟨hs, _⟩ | ⟨hs, _⟩ | rfl
 · simp only [ofEvent_cell0, MemAct.touch?, Option.some.injEq] at hb
   subst hb
   refine .inl ⟨a, rfl, hlt, ?_⟩
   rcases hw with hw | hw | ⟨rfl, hw⟩
   · exact .inl (.inl (hnew _ hw hlt))
   · rcases hw with hw | hw
     · exact .inl (.inl hw)
     · exact .inl (.inr ⟨hgot _ _ hw, hw⟩)
   · rcases hw with hw | hw | hw
     · exact .inl (.inl hw)
     · exact .inl (.inr ⟨hgot _ _ hw, hw⟩)
     · exact .inr ⟨hrd _ hw, hw, rfl⟩
 · cases hs
 · cases hs
 · simp [MemAct.ofEvent, MemAct.touch?] at hb
theorem okM_of {AB : Nat → Prop} {o : Nat → Nat} {n n' : Nat} {NC : Nat → Prop} {Given : Cells} {Fz : Nat → Prop} {fn : FuncId} {pos : String} {g : Nat} {es : Array Event} (hnew : ∀ b, n ≤ b → b < n' → o b = 0)
   (h : ∀ e ∈ es, EvOK true Wg (writM (own0 o) Given Fz) (keepM (own0 o) Given) n n' NC e) : ∀ op ∈ MemOp.ofEvents g fn pos es, ∀ b, op.act.touch? = some b → OkM Wg AB o n n' NC Given Fz b := by
 intro op hop b hb
 obtain ⟨e, he, rfl⟩ := Go.Conc.mem_ofEvents hop
 rcases h e he with ⟨a, wr, sy, rfl, _, hlt, hw⟩ | ⟨_, a, s1, s2, ha, hs⟩ | ⟨_, c, wr, rfl, hc, hlt⟩ | rfl
 · simp only [ofEvent_cell0, MemAct.touch?, Option.some.injEq] at hb
   subst hb
   refine .inl ⟨a, rfl, hlt, ?_⟩
   rcases Nat.lt_or_ge a.block n with hlt' | hge
   · rcases hw with hw | ⟨h1, h2, h3⟩ | ⟨rfl, h1, h2⟩
     · omega
     · exact ⟨h1, fun _ => ⟨h2, .inl h3⟩⟩
     · exact ⟨h1, fun _ => ⟨h2, .inr rfl⟩⟩
   · exact ⟨hnew _ hge hlt, fun x => by omega⟩
 · right; left
   rcases hs with rfl | rfl <;> simp only [MemAct.ofEvent, MemAct.touch?, Option.some.injEq] at hb <;> subst hb <;> exact ⟨.inl ⟨a, rfl, .inl ha⟩, by simp⟩
 · right; right
   simp only [MemAct.ofEvent, MemAct.touch?, Option.some.injEq] at hb
   subst hb
   exact ⟨c, rfl, hc, hlt⟩
 · simp [MemAct.ofEvent, MemAct.touch?] at hb
theorem evOK_still {said : Bool} {Wr Rd : Cells} {n n' : Nat} {NC : Nat → Prop} {es : Array Event} (h : ∀ e ∈ es, EvOK said Wg Wr Rd n n' NC e) : (∀ e ∈ es, e.loc ≠ .mark .disable ∧ e.loc ≠ .mark .enable) ∧ ∀ g fn pos, ∀ op ∈ MemOp.ofEvents g fn pos es, ∀ a, op.act ≠ .mark (.release a) := by
 refine ⟨fun e he => ?_, fun g fn pos op hop a hr => ?_⟩
 · rcases h e he with ⟨a, wr, sy, rfl, _⟩ | ⟨_, a, s1, s2, _, rfl | rfl⟩ | ⟨_, c, wr, rfl, _⟩ | rfl <;> simp
 · obtain ⟨e, he, rfl⟩ := Go.Conc.mem_ofEvents hop
   rcases h e he with ⟨a', wr, sy, rfl, _⟩ | ⟨_, a', s1, s2, _, rfl | rfl⟩ | ⟨_, c, wr, rfl, _⟩ | rfl
   · rw [ofEvent_cell0] at hr; cases hr
   · simp [MemAct.ofEvent] at hr
   · simp [MemAct.ofEvent] at hr
   · simp [MemAct.ofEvent] at hr
   · simp [MemAct.ofEvent] at hr
theorem g_ofEvents {g : Nat} {fn : FuncId} {pos : String} {es : Array Event} : ∀ op ∈ MemOp.ofEvents g fn pos es, op.g = g := fun op hop => by obtain ⟨e, _, rfl⟩ := Go.Conc.mem_ofEvents hop; rfl
theorem Mode.retag {j : Nat} {sg : Nat → Nat} {tag tag' : MTag} {st sm : Int} (h : Mode j sg tag st sm) (e : tag' = tag ∨ (tag = .blk ∧ tag' = .w3)) : Mode j sg tag' st sm := by
 rcases e with rfl | ⟨rfl, rfl⟩
 · exact h
 · cases h with
   | opn h1 _ _ => exact h1.elim
   | reg _ h2 h3 => exact .reg trivial h2 h3
   | last L _ h2 h3 h4 => exact .last L trivial h2 h3 h4
   | fin h1 _ => exact h1.elim
theorem stage_same {D : Nat → KDt N} {i : Nat} {x : KDt N} (h : x.stage = (D i).stage) : (fun k => (upd D i x k).stage) = fun k => (D k).stage := by
 funext k
 by_cases hk : k = i
 · subst hk; rw [upd_same]; exact h
 · rw [upd_ne _ _ hk]
theorem Vc_upd {j i : Nat} (hi : i < j) (D : Nat → KDt N) (x : KDt N) : Vc j (fun k => (upd D i x k).stage) + cnt (D i).stage = Vc j (fun k => (D k).stage) + cnt x.stage := sumTo_upd D x (fun y => cnt y.stage) hi
theorem kmu_upd {j i : Nat} (hi : i < j) (D : Nat → KDt N) (x : KDt N) : (sumTo j fun k => kmu N (upd D i x k)) + kmu N (D i) = (sumTo j fun k => kmu N (D k)) + kmu N x := sumTo_upd D x (kmu N) hi
theorem fuel_upd {j i : Nat} (hi : i < j) (D : Nat → KDt N) (x : KDt N) : (sumTo j fun k => (upd D i x k).fuel) + (D i).fuel = (sumTo j fun k => (D k).fuel) + x.fuel := sumTo_upd D x KDt.fuel hi
theorem Less.of {c' c : Cf N} (h1 : mu1 c' < mu1 c ∨ (mu1 c' = mu1 c ∧ mu2 base c' < mu2 base c)) : Less base c' c := h1
theorem kidTurn (hN : NetOK P ty Wg N) (hb : 0 < base) {c : Cf N} {t : Trace} (hI : Inv P ty Wg N Shun base T0 c t) {i : Nat} (hi : i < c.j) {g g' : Goroutine} {w' : World} {es : Array Event} {o₁ : Nat → Nat} {x : KDt N} {st' sm' : Int}
   (hg : c.gs[base + i]? = some g) (hgo : stepG P false g c.w = .go g' w' es) (hag : Agr c.w.heap.size c.o o₁) (hnew : ∀ b, c.w.heap.size ≤ b → b < w'.heap.size → o₁ b = i + 1)
   (hMR : MR ty Wg (own0 c.o) c.Given c.w w') (hKR : ∀ k, k < c.j → k ≠ i → KR ty Wg (ownK c.o k) (c.D k).kg.Got (c.D k).kg.Rd c.w w')
   (hsit : KSit P ty Wg N o₁ i x.s x.kg x.stage x.fuel x.deaf g' w') (hkg : x.kg = (c.D i).kg) (hprot : ∀ m, c.Q m → N.I m c.j (upd (fun k => (c.D k).s) i x.s) c.cl)
   (hcel : ∀ b y, N.cel b y → w'.cell? ⟨b, y, none⟩ = some (N.val c.j (upd (fun k => (c.D k).s) i x.s) b y))
   (htr : Tr Wg N.AB Shun o₁ w'.heap.size c.Given c.Fz base c.j (fun i => (c.D i).kg) T0 (Nc w') (t ++ MemOp.ofEvents (base + i) g.frame.fn g.frame.place es))
   (hdf : deafBehind (c.D i).deaf es = x.deaf)
   (hchan : ∀ y b, c.cl y = some b → ∃ k, w'.heap[y]? = some (.chan 0 #[] b k k false)) (hwg : WgAt ty Wg w' st' sm')
   (hmode : ∀ tag', (tag' = c.tag ∨ (c.tag = .blk ∧ tag' = .w3)) → (mayWake P g = true → g'.status = .running → tag' ≠ .blk) → Mode c.j (fun k => (upd c.D i x k).stage) tag' st' sm')
   (hrel : x.stage ≤ 6 → Rels Wg T0 (t ++ MemOp.ofEvents (base + i) g.frame.fn g.frame.place es) (base + i)) (hnp : x.stage = 8 → x.fuel ≠ 0)
   (hlt : (kmu N x < kmu N (c.D i) ∧ cnt x.stage ≤ cnt (c.D i).stage) ∨ (kmu N x = kmu N (c.D i) ∧ x.stage = (c.D i).stage ∧ x.fuel < (c.D i).fuel)) :
   Onward P ty Wg N Shun base T0 c t (runT P (crowd c.gs c.w c.sl) (base + i)) := by
 have hi0 : (base + i == 0) = false := by simp; omega
 have hrun := runT_crowd_go (P := P) (sl := c.sl) hg (by rw [hi0]; exact hgo)
 have hszg : base + i < c.gs.size := by rw [hI.size]; omega
 obtain ⟨a, ha, hma⟩ := hI.main
 have hopen : ∀ y, c.cl y = some false → ∃ k, w'.heap[y]? = some (.chan 0 #[] false k k false) := fun y hy => hchan y false hy
 obtain ⟨m₀, hm₀⟩ := hI.ex
 have hchs := hN.chans _ _ _ _ (hI.prot m₀ hm₀).1
 have hma' := hma.rely hMR hag
 obtain ⟨tag', f', hm', hf', htag, hwk, hsame⟩ := hma'.wokenBy hN g g' (fun _ m y v hQ hy => hopen y ((hN.chans _ _ _ _ (hI.prot m hQ).1).1 y v hy))
 have hDkg : (fun k => (upd c.D i x k).kg) = fun k => (c.D k).kg := by
   funext k
   by_cases hk : k = i
   · subst hk; rw [upd_same]; exact hkg
   · rw [upd_ne _ _ hk]
 have hDs : (fun k => (upd c.D i x k).s) = upd (fun k => (c.D k).s) i x.s := by
   funext k
   by_cases hk : k = i
   · subst hk; rw [upd_same, upd_same]
   · rw [upd_ne _ _ hk, upd_ne _ _ hk]
 have hothers : ∀ op ∈ MemOp.ofEvents (base + i) g.frame.fn g.frame.place es, op.g = base + i := g_ofEvents
 refine ⟨{ c with gs := (c.gs.map (woken P g g' w')).setIfInBounds (base + i) g', w := w', o := o₁, D := upd c.D i x, tag := tag', f0 := f', st := st', sm := sm' }, ?_, ?_, ?_⟩
 · rw [hrun]
 · -- the measure
   have e1 := kmu_upd hi c.D x
   have e2 := fuel_upd hi c.D x
   have e3 := Vc_upd hi c.D x
   have hphi : ∀ V V', V' ≤ V → phi c.j V' c.B tag' ≤ phi c.j V c.B c.tag := by
     intro V V' hV
     rcases htag with e | ⟨e, e'⟩
     · rw [e]; cases c.tag <;> simp only [phi] <;> omega
     · rw [e, e']; exact Nat.le_refl _
   show (_ ∨ _)
   simp only [mu1, mu2]
   rcases hlt with ⟨h1, h2⟩ | ⟨h0, h1, h2⟩
   · left
     have hV : Vc c.j (fun k => (upd c.D i x k).stage) ≤ Vc c.j fun k => (c.D k).stage := by omega
     have := hphi _ _ hV
     omega
   · have hV : Vc c.j (fun k => (upd c.D i x k).stage) = Vc c.j fun k => (c.D k).stage := by rw [h1] at e3; omega
     right
     have hp : phi c.j (Vc c.j fun k => (upd c.D i x k).stage) c.B tag' = phi c.j (Vc c.j fun k => (c.D k).stage) c.B c.tag := by
       rw [hV]
       rcases htag with e | ⟨e, e'⟩
       · rw [e]
       · rw [e, e']; rfl
     refine ⟨by omega, ?_⟩
     omega
 · rw [hrun]
   refine ⟨?_, ?_, fun k hk => ?_, fun k y hk0 hkb hy => ?_, fun k hk => ?_, fun k hk => ?_, ?_, ?_, ?_, hchan, hwg, hmode tag' htag hwk, fun k hk hsg => ?_, fun m hm => ⟨by rw [hDs]; exact hprot m hm, (hI.prot m hm).2⟩, hI.ex, ?_, fun k hk h8 h0 y hy => ?_, fun k k' y v hk hk' h8 h0 h8' h0' hy => ?_, fun htg m hm k y v hk h8 h0 hy => ?_, fun b y hb => by rw [hDs]; exact hcel b y hb⟩
   · simp [hI.size]
   · exact ⟨_, by rw [get_map_set _ _ _ _ _ (by omega), ha]; rfl, hm'⟩
   · by_cases hki : k = i
     · subst hki
       refine ⟨g', get_map_set_same _ _ _ _ hszg, ?_⟩
       simp only [upd_same]
       exact hsit
     · obtain ⟨y, hy, hsy⟩ := hI.kids k hk
       refine ⟨_, by rw [get_map_set _ _ _ _ _ (by omega), hy]; rfl, ?_⟩
       simp only [upd_ne _ _ hki]
       have hsy' := hsy.rely (hKR k hk hki) hag
       rw [hsy'.woken hN g g' fun h8 h0 y hy => ?_]
       · exact hsy'
       · rcases hy with hy | ⟨v, hy⟩
         · exact hopen y (hI.pOpen k hk h8 h0 y hy)
         · exact hopen y ((hchs.2 k hk).2 y v hy)
   · rw [get_map_set _ _ _ _ _ (by omega)] at hy
     obtain ⟨z, hz, rfl⟩ := Option.map_eq_some_iff.1 hy
     have hq := hI.old k z hk0 hkb hz
     rw [woken_quitsD hq, Deaf_other t (by omega) _ hothers]
     exact hq
   · have hk' : base + c.j ≤ k := hk
     rw [Deaf_other t (g' := base + i) (by omega) _ hothers]; exact hI.above k hk
   · by_cases hki : k = i
     · subst hki
       simp only [upd_same]
       rw [Deaf_own, hI.deafK k hk]; exact hdf
     · simp only [upd_ne _ _ hki]
       rw [Deaf_other t (by omega) _ hothers]; exact hI.deafK k hk
   · rw [Deaf_other t (by omega) _ hothers]; exact hI.deaf0
   · rw [hDkg]
     exact hI.gh.grow hag hMR.size fun b h1 h2 => by show o₁ b ≤ c.j; rw [hnew b h1 h2]; omega
   · rw [hDkg]; exact htr
   · by_cases hki : k = i
     · subst hki
       simp only [upd_same] at hsg
       exact hrel hsg
     · simp only [upd_ne _ _ hki] at hsg
       exact (hI.rel k hk hsg).app fun op hop e => by rw [hothers op hop] at e; omega
   · have := hI.t0; simp; omega
   · by_cases hki : k = i
     · subst hki
       simp only [upd_same] at h8 h0
       exact absurd h0 (hnp h8)
     · simp only [upd_ne _ _ hki] at h8 h0 hy
       exact hI.pOpen k hk h8 h0 y hy
   · by_cases hki : k = i
     · subst hki
       simp only [upd_same] at h8 h0
       exact absurd h0 (hnp h8)
     · by_cases hki' : k' = i
       · subst hki'
         simp only [upd_same] at h8' h0'
         exact absurd h0' (hnp h8')
       · simp only [upd_ne _ _ hki] at h8 h0 hy
         simp only [upd_ne _ _ hki'] at h8' h0' ⊢
         exact hI.pKK k k' y v hk hk' h8 h0 h8' h0' hy
   · by_cases hki : k = i
     · subst hki
       simp only [upd_same] at h8 h0
       exact absurd h0 (hnp h8)
     · simp only [upd_ne _ _ hki] at h8 h0 hy
       rcases htag with e | ⟨_, e⟩
       · exact hI.pMK (e ▸ htg) m hm k y v hk h8 h0 hy
       · rw [e] at htg; cases htg
theorem kidStep (hN : NetOK P ty Wg N) (hb : 0 < base) {c : Cf N} {t : Trace} (hI : Inv P ty Wg N Shun base T0 c t) {i : Nat} (hi : i < c.j) {g g' : Goroutine} {w' : World} {es : Array Event} {o₁ : Nat → Nat} {x : KDt N} {st' sm' : Int}
   (hg : c.gs[base + i]? = some g) (hgo : stepG P false g c.w = .go g' w' es) (hag : Agr c.w.heap.size c.o o₁) (hnew : ∀ b, c.w.heap.size ≤ b → b < w'.heap.size → o₁ b = i + 1)
   (hMR : MR ty Wg (own0 c.o) c.Given c.w w') (hKR : ∀ k, k < c.j → k ≠ i → KR ty Wg (ownK c.o k) (c.D k).kg.Got (c.D k).kg.Rd c.w w')
   (hsit : KSit P ty Wg N o₁ i x.s x.kg x.stage x.fuel x.deaf g' w') (hkg : x.kg = (c.D i).kg) (hs : x.s = (c.D i).s) (hkeep : ∀ b, N.AB b → ∀ y, w'.cell? ⟨b, y, none⟩ = c.w.cell? ⟨b, y, none⟩)
   (htr : Tr Wg N.AB Shun o₁ w'.heap.size c.Given c.Fz base c.j (fun i => (c.D i).kg) T0 (Nc w') (t ++ MemOp.ofEvents (base + i) g.frame.fn g.frame.place es))
   (hdf : deafBehind (c.D i).deaf es = x.deaf)
   (hchan : ∀ y b, c.cl y = some b → ∃ k, w'.heap[y]? = some (.chan 0 #[] b k k false)) (hwg : WgAt ty Wg w' st' sm')
   (hmode : ∀ tag', (tag' = c.tag ∨ (c.tag = .blk ∧ tag' = .w3)) → (mayWake P g = true → g'.status = .running → tag' ≠ .blk) → Mode c.j (fun k => (upd c.D i x k).stage) tag' st' sm')
   (hrel : x.stage ≤ 6 → Rels Wg T0 (t ++ MemOp.ofEvents (base + i) g.frame.fn g.frame.place es) (base + i)) (hnp : x.stage = 8 → x.fuel ≠ 0)
   (hlt : (x.stage < (c.D i).stage ∧ cnt x.stage ≤ cnt (c.D i).stage) ∨ (x.stage = (c.D i).stage ∧ x.fuel < (c.D i).fuel)) :
   Onward P ty Wg N Shun base T0 c t (runT P (crowd c.gs c.w c.sl) (base + i)) := by
 have e : upd (fun k => (c.D k).s) i x.s = fun k => (c.D k).s := by
   funext k
   by_cases hk : k = i
   · subst hk; rw [upd_same]; exact hs
   · rw [upd_ne _ _ hk]
 refine kidTurn hN hb hI hi hg hgo hag hnew hMR hKR hsit hkg (fun m hm => by rw [e]; exact (hI.prot m hm).1) (fun b y hc => by rw [e]; exact (hkeep b ⟨y, hc⟩ y).trans (hI.cells b y hc)) htr hdf hchan hwg hmode hrel hnp ?_
 have hk : kmu N x + (c.D i).stage = kmu N (c.D i) + x.stage := by simp only [kmu, hs]; omega
 exact hlt.imp (fun h => ⟨by omega, h.2⟩) fun h => ⟨by omega, h⟩
theorem kid_plain (hN : NetOK P ty Wg N) (hb : 0 < base) {c : Cf N} {t : Trace} (hI : Inv P ty Wg N Shun base T0 c t) {i : Nat} (hi : i < c.j) {g : Goroutine} (hg : c.gs[base + i]? = some g) {m : Nat} (h8 : (c.D i).stage = 8) (hf : (c.D i).fuel = m + 3) (hd : (c.D i).deaf = 0)
   (h : ∀ o', Agr c.w.heap.size c.o o' → (stepG P false g c.w).goes fun g' w' es => KD Wg (ownK o' i) (c.D i).kg.Got (c.D i).kg.Rd c.w w' es ∧ (New (ownK o' i) c.w w' →
     Goo P false (ownK o' i) (KR ty Wg (ownK o' i) (c.D i).kg.Got (c.D i).kg.Rd) (KD Wg (ownK o' i) (c.D i).kg.Got (c.D i).kg.Rd) (N.Kid (ownK o' i) (c.D i).s (c.D i).kg.Got (c.D i).kg.Rd) m g' w')) :
   Onward P ty Wg N Shun base T0 c t (runT P (crowd c.gs c.w c.sl) (base + i)) := by
 have h0 := h c.o (Agr.refl _ _)
 cases hgo : stepG P false g c.w with
 | go g' w' es =>
   rw [hgo] at h h0
   simp only [goes_go] at h h0
   have hG := hI.gh
   have hgotlt : ∀ b x, (c.D i).kg.Got b x → b < c.w.heap.size := fun b x hx => (hG.given _ _ (hG.got i hi b x hx).1).1
   have hrdlt : ∀ b, (c.D i).kg.Rd b → b < c.w.heap.size := fun b hx => (hG.fz _ (hG.rd i hi b hx)).1
   let o₁ : Nat → Nat := fun b => if b < c.w.heap.size then c.o b else i + 1
   have hag : Agr c.w.heap.size c.o o₁ := fun b hb => by simp [o₁, hb]
   have hnew : ∀ b, c.w.heap.size ≤ b → b < w'.heap.size → o₁ b = i + 1 := fun b h1 _ => by
     have : ¬ b < c.w.heap.size := by omega
     simp [o₁, this]
   have hD := (h o₁ hag).1
   have hgoo := fun o' ha => (h o' ha).2
   have hwr : ∀ b x, b < c.w.heap.size → writK (ownK o₁ i) (c.D i).kg.Got b x → c.o b = i + 1 ∨ (c.D i).kg.Got b x := fun b x hb hx => hx.imp (fun e => by unfold ownK at e; rw [hag b hb] at e; exact e) id
   have hwgw : ∀ x, ¬ writK (ownK o₁ i) (c.D i).kg.Got Wg x := fun x hx => by
     rcases hwr _ _ hG.wg.1 hx with e | e
     · rw [hG.wg.2.1] at e; omega
     · exact (hG.got i hi _ _ e).2.2.1 (.inl rfl)
   have hchw : ∀ y, c.cl y ≠ none → ∀ x, ¬ writK (ownK o₁ i) (c.D i).kg.Got y x := fun y hy x hx => by
     have hc := hG.ch y hy
     rcases hwr _ _ hc.1 hx with e | e
     · omega
     · exact (hG.got i hi _ _ e).2.2.2 hy
   have hMR : MR ty Wg (own0 c.o) c.Given c.w w' := hD.rel (fun b x hb hk hx => by
     rcases hwr _ _ hb hx with e | e
     · have := hk.1; unfold own0 at this; omega
     · exact hk.2 (hG.got i hi _ _ e).1) hG.wg.1 hwgw
   have hst := evOK_still hD.evs
   refine kidStep hN hb hI hi (x := ⟨(c.D i).s, (c.D i).kg, 8, m + 2, 0⟩) (o₁ := o₁) (st' := c.st) (sm' := c.sm) hg hgo hag hnew hMR (fun k hk hki => hD.rel (fun b x hb hkk hx => ?_) hG.wg.1 hwgw)
     (.run fun o' ha => hgoo o' (hag.of hD.size ha) fun b h1 h2 => by unfold ownK; rw [ha b h2]; exact hnew b h1 h2) rfl rfl (fun b hb y => hD.cell b y (hG.ab b hb).1.1 fun hx => ?_) ?_ ?_ (fun y b hy => ?_) ?_ ?_ (fun e => by simp at e) (fun _ => by simp) (.inr ⟨h8.symm, by simp [hf]⟩)
   · -- another child's share
     rcases hwr _ _ hb hx with e | e
     · rcases hkk with e' | e' | e'
       · unfold ownK at e'; omega
       · have := (hG.given _ _ (hG.got k hk _ _ e').1).2; omega
       · have := (hG.fz _ (hG.rd k hk _ e')).2.1; omega
     · have hgv := hG.got i hi _ _ e
       rcases hkk with e' | e' | e'
       · have := (hG.given _ _ hgv.1).2; unfold ownK at e'; omega
       · exact hG.apart i k hi hk (Ne.symm hki) _ _ e e'
       · exact (hG.fz _ (hG.rd k hk _ e')).2.2 _ hgv.1
   · rcases hwr _ _ (hG.ab b hb).1.1 hx with e | e
     · rw [(hG.ab b hb).1.2.1] at e; omega
     · exact (hG.got i hi _ _ e).2.2.1 (.inr hb)
   · exact (hI.tr.agr hag).appK (Gh.grow hG hag (Nat.le_refl _) fun b h1 h2 => by omega) hD.size hD.kind (fun _ => Nc.lt) hi g_ofEvents (okK_of hgotlt hrdlt hnew hD.evs) (hst.2 _ _ _)
   · rw [hd]; exact deafBehind_still hst.1 0
   · obtain ⟨k, hk⟩ := hI.chan y b hy
     exact ⟨k, (hD.blk y (hG.ch y (by rw [hy]; simp)).1 (hchw y (by rw [hy]; simp))).trans hk⟩
   · exact hI.wg.of_block (hD.blk Wg hG.wg.1 hwgw)
   · intro tag' ht _
     rw [stage_same h8.symm]
     exact hI.mode.retag ht
 | _ => rw [hgo] at h0; exact h0.elim
end
end Go.Proofs.Ytblpmdolclalnaa
namespace Go.Proofs.Ytblpmdolclalnaa
open Go.Conc
open Go.ConcR (WgAt KK stA smA rd wr mk DC0 deafBehind_cons deafBehind_one ofEvent_mk)
open Go.ConcN (WgLive sumTo upd upd_same upd_ne sumTo_upd sumTo_congr RelBy)
section
variable {P : Program} {ty : TypeId} {Wg : Nat} {N : Net} {Shun : Nat → Prop} {base T0 : Nat}
theorem setCell_ne {w : World} {a : Addr} {v : Value} {b : Nat} (h : b ≠ a.block) : (w.setCell a v).heap[b]? = w.heap[b]? := by
 unfold World.setCell
 simp only [Array.getElem?_modify]
 rw [if_neg (fun e => h e.symm)]
theorem same_setCell (w : World) (a : Addr) (v : Value) : SameCh w (w.setCell a v) := fun b hb => by
 by_cases e : b = a.block
 · subst e
   refine not_congr ?_
   have hx : ∃ x, w.heap[a.block]? = some x := ⟨_, Array.getElem?_eq_some_iff.2 ⟨hb, rfl⟩⟩
   obtain ⟨x, hx⟩ := hx
   unfold CS World.setCell
   simp only [Array.getElem?_modify, if_true, hx, Option.map_some, Option.some.injEq]
   cases x <;> simp
 · exact not_congr (CS.eq (setCell_ne e))
theorem rel_wg {Keep : Cells} {w : World} {a : Addr} {v : Value} (ha : a.block = Wg) (hK : ∀ x, ¬ Keep Wg x) (hl : WgLive ty Wg (w.setCell a v)) : Rel ty Wg Keep w (w.setCell a v) := by
 have ne : ∀ b, b ≠ Wg → (w.setCell a v).heap[b]? = w.heap[b]? := fun b hb => setCell_ne (ha ▸ hb)
 refine ⟨by simp [World.setCell], fun b _ k => ne b fun e => hK 0 (e ▸ k 0), fun b o _ k => cell?_eq (ne b fun e => hK o (e ▸ k)) o, fun b c e f h => ?_, fun _ => hl, rfl, rfl, rfl⟩
 by_cases hb : b = Wg
 · subst hb
   refine ⟨if a.spot.isSome then c else c.setIfInBounds a.off v, ?_, ?_⟩
   · unfold World.setCell
     simp only [Array.getElem?_modify, ha, if_true, h, Option.map_some]
   · split <;> simp
 · exact ⟨c, (ne b hb).trans h, rfl⟩
theorem Rels.own {t : Trace} {k : Nat} (h : Rels Wg T0 t k) (fn : FuncId) (pos : String) (es : Array Event)
   (hes : ∀ j e, es[j]? = some e → (MemAct.ofEvent e).touch? = none ∨ ((∃ ad wr, e = ⟨.cell ad, wr, true⟩ ∧ ad.block = Wg) ∧ 0 < deafBehind (Deaf t k) (es.extract 0 j))) : Rels Wg T0 (t ++ MemOp.ofEvents k fn pos es) k := by
 obtain ⟨r, h0, h1, h2, h3⟩ := h
 refine ⟨r, h0, by simp; omega, h2.appOwn fn pos es fun j e he => (hes j e he).imp id fun x => ⟨let ⟨ad, wr, e1, _⟩ := x.1; ⟨ad, wr, e1⟩, x.2⟩, fun x a hx hg ha => ?_⟩
 rcases touchAt_app ha with ⟨hlt, ha'⟩ | ⟨hge, op, hop, hio, hoa⟩
 · exact h3 x a hx (by rw [← g?_old (u := MemOp.ofEvents k fn pos es) hlt]; exact hg) ha'
 · obtain ⟨e, he, rfl⟩ := Go.Conc.mem_ofEvents hop
   obtain ⟨j, hj⟩ := Array.mem_iff_getElem?.1 he
   rcases hes j e hj with hn | ⟨⟨ad, wr, rfl, hb⟩, _⟩
   · simp only at hoa; rw [hn] at hoa; cases hoa
   · simp only [ofEvent_cell0, MemAct.touch?, Option.some.injEq] at hoa
     subst hoa
     exact ⟨⟨ad, rfl, hb⟩, rfl⟩
theorem Rels.new {t : Trace} {k : Nat} (hd : Deaf t k = 0) (ht : T0 ≤ t.size) (fn : FuncId) (pos : String) : Rels Wg T0 (t ++ MemOp.ofEvents k fn pos #[mk (.releaseMerge (stA Wg))]) k := by
 have e1 : MemOp.ofEvents k fn pos #[mk (.releaseMerge (stA Wg))] = #[{ g := k, fn, pos, act := .mark (.releaseMerge (stA Wg)) }] := by rw [ofEvents_eq]; simp [ofEvent_mk]
 refine ⟨t.size, ht, by rw [e1]; simp, RelBy.new hd fn pos, fun x a hx hg ha => ?_⟩
 rw [e1] at ha
 rcases touchAt_app ha with ⟨hlt, _⟩ | ⟨_, op, hop, _, hoa⟩
 · omega
 · simp only [List.mem_toArray, List.mem_cons, List.not_mem_nil, or_false] at hop
   subst hop
   simp [MemAct.touch?] at hoa
def Quietly (Wg : Nat) (es : Array Event) : Prop := ∀ e ∈ es, ((MemAct.ofEvent e).touch? = none ∨ ∃ (ad : Addr) (wr : Bool), e = ⟨.cell ad, wr, true⟩ ∧ ad.block = Wg) ∧ ∀ a, MemAct.ofEvent e ≠ .mark (.release a)
theorem Quietly.okK {AB NC : Nat → Prop} {es : Array Event} (h : Quietly Wg es) {o : Nat → Nat} {n n' i g : Nat} {kg : KG} {fn : FuncId} {pos : String} : (∀ op ∈ MemOp.ofEvents g fn pos es, ∀ b, op.act.touch? = some b → OkK Wg AB o n n' NC kg i b) ∧ ∀ op ∈ MemOp.ofEvents g fn pos es, ∀ a, op.act ≠ .mark (.release a) := by
 refine ⟨fun op hop b hb => ?_, fun op hop a => ?_⟩
 · obtain ⟨e, he, rfl⟩ := Go.Conc.mem_ofEvents hop
   rcases (h e he).1 with hn | ⟨ad, wr, rfl, ha⟩
   · simp only at hb; rw [hn] at hb; cases hb
   · simp only [ofEvent_cell0, MemAct.touch?, Option.some.injEq] at hb
     subst hb
     exact .inr ⟨.inl ⟨ad, rfl, .inl ha⟩, rfl⟩
 · obtain ⟨e, he, rfl⟩ := Go.Conc.mem_ofEvents hop
   exact (h e he).2 a
theorem Quietly.okM {AB NC : Nat → Prop} {es : Array Event} (h : Quietly Wg es) {o : Nat → Nat} {n n' g : Nat} {Given : Cells} {Fz : Nat → Prop} {fn : FuncId} {pos : String} : (∀ op ∈ MemOp.ofEvents g fn pos es, ∀ b, op.act.touch? = some b → OkM Wg AB o n n' NC Given Fz b) ∧ ∀ op ∈ MemOp.ofEvents g fn pos es, ∀ a, op.act ≠ .mark (.release a) := by
 refine ⟨fun op hop b hb => ?_, fun op hop a => ?_⟩
 · obtain ⟨e, he, rfl⟩ := Go.Conc.mem_ofEvents hop
   rcases (h e he).1 with hn | ⟨ad, wr, rfl, ha⟩
   · simp only at hb; rw [hn] at hb; cases hb
   · simp only [ofEvent_cell0, MemAct.touch?, Option.some.injEq] at hb
     subst hb
     exact .inr (.inl ⟨.inl ⟨ad, rfl, .inl ha⟩, by simp⟩)
 · obtain ⟨e, he, rfl⟩ := Go.Conc.mem_ofEvents hop
   exact (h e he).2 a
theorem quietly_nil : Quietly Wg #[] := fun e he => by simp at he
theorem quietly_mk {m : Mark} (h : ∀ a, m ≠ .release a) (h1 : ∀ a, m ≠ .read a) (h2 : ∀ a, m ≠ .write a) : Quietly Wg #[mk m] := fun e he => by
 simp only [List.mem_toArray, List.mem_cons, List.not_mem_nil, or_false] at he
 subst he
 rw [ofEvent_mk]
 refine ⟨.inl ?_, fun a e => h a (MemAct.mark.inj e)⟩
 cases m <;> first | rfl | exact absurd rfl (h1 _) | exact absurd rfl (h2 _)
theorem quietly_acc {es : Array Event} (h : ∀ e ∈ es, (∃ (ad : Addr) (wr : Bool), e = ⟨.cell ad, wr, true⟩ ∧ ad.block = Wg) ∨ e = mk .disable ∨ e = mk .enable) : Quietly Wg es := fun e he => by
 rcases h e he with ⟨ad, wr, rfl, hb⟩ | rfl | rfl
 · exact ⟨.inr ⟨ad, wr, rfl, hb⟩, fun a e => by rw [ofEvent_cell0] at e; cases e⟩
 · exact ⟨.inl rfl, fun a e => by simp [mk, MemAct.ofEvent] at e⟩
 · exact ⟨.inl rfl, fun a e => by simp [mk, MemAct.ofEvent] at e⟩
theorem quietly_mute {es : Array Event} (h : ∀ e ∈ es, Event.mute e = true) : Quietly Wg es := fun e he => by
 refine ⟨.inl (touch_mute (h e he)), fun a hh => ?_⟩
 have := h e he
 obtain ⟨loc, wr, sy⟩ := e
 cases loc with
 | mark m => cases m <;> simp_all [Event.mute, MemAct.ofEvent]
 | _ => simp_all [Event.mute]
theorem rls_live {w : World} {st sm : Int} (h : WgAt ty Wg w st sm) : WgLive ty Wg w := ⟨st, sm, h⟩
theorem kid_quiet (hN : NetOK P ty Wg N) (hb : 0 < base) {c : Cf N} {t : Trace} (hI : Inv P ty Wg N Shun base T0 c t) {i : Nat} (hi : i < c.j) {g g' : Goroutine} {w' : World} {es : Array Event} {stage fuel deaf : Nat} {st' sm' : Int}
   (hg : c.gs[base + i]? = some g) (hgo : stepG P false g c.w = .go g' w' es) (hq : Quietly Wg es) (hw : w' = c.w ∨ ∃ (a : Addr) (v : Value), a.block = Wg ∧ w' = c.w.setCell a v) (hwg : WgAt ty Wg w' st' sm')
   (hsit : (∀ o', Agr w'.heap.size c.o o' → KR ty Wg (ownK o' i) (c.D i).kg.Got (c.D i).kg.Rd c.w w') → KSit P ty Wg N c.o i (c.D i).s (c.D i).kg stage fuel deaf g' w')
   (hdf : deafBehind (c.D i).deaf es = deaf)
   (hmode : ∀ tag', (tag' = c.tag ∨ (c.tag = .blk ∧ tag' = .w3)) → (mayWake P g = true → g'.status = .running → tag' ≠ .blk) → Mode c.j (fun k => (upd c.D i ⟨(c.D i).s, (c.D i).kg, stage, fuel, deaf⟩ k).stage) tag' st' sm')
   (hrel : Rels Wg T0 (t ++ MemOp.ofEvents (base + i) g.frame.fn g.frame.place es) (base + i)) (hnp : stage ≠ 8)
   (hlt : (stage < (c.D i).stage ∧ cnt stage ≤ cnt (c.D i).stage) ∨ (stage = (c.D i).stage ∧ fuel < (c.D i).fuel)) :
   Onward P ty Wg N Shun base T0 c t (runT P (crowd c.gs c.w c.sl) (base + i)) := by
 have hG := hI.gh
 have hsz : w'.heap.size = c.w.heap.size := by
   rcases hw with rfl | ⟨a, v, _, rfl⟩
   · rfl
   · simp [World.setCell]
 have rel : ∀ {Keep : Cells}, (∀ x, ¬ Keep Wg x) → Rel ty Wg Keep c.w w' := fun hK => by
   rcases hw with e | ⟨a, v, ha, e⟩
   · rw [e]; exact Rel.refl _
   · rw [e] at hwg ⊢
     exact rel_wg ha hK (rls_live hwg)
 have hKk : ∀ o', Agr c.w.heap.size c.o o' → ∀ k, k < c.j → ∀ x, ¬ keepK (ownK o' k) (c.D k).kg.Got (c.D k).kg.Rd Wg x := fun o' ho k hk x hx => by
   rcases hx with e | e | e
   · unfold ownK at e; rw [ho _ hG.wg.1, hG.wg.2.1] at e; omega
   · exact (hG.got k hk _ _ e).2.2.1 (.inl rfl)
   · exact hG.wg.2.2.2.1 (hG.rd k hk _ e)
 have same : SameCh c.w w' := by
   rcases hw with rfl | ⟨a, v, _, rfl⟩
   · exact SameCh.refl _
   · exact same_setCell _ _ _
 have hch : ∀ y b, c.cl y = some b → w'.heap[y]? = c.w.heap[y]? := fun y b hy => by
   have hne := (hG.ch y (by rw [hy]; simp)).2.2.1
   rcases hw with e | ⟨a, v, ha, e⟩
   · rw [e]
   · rw [e]; exact setCell_ne (ha ▸ hne)
 have hok := hq.okK (AB := N.AB) (NC := Nc w') (o := c.o) (n := c.w.heap.size) (n' := c.w.heap.size) (i := i) (g := base + i) (kg := (c.D i).kg) (fn := g.frame.fn) (pos := g.frame.place)
 refine kidStep hN hb hI hi (x := ⟨(c.D i).s, (c.D i).kg, stage, fuel, deaf⟩) (o₁ := c.o) hg hgo (Agr.refl _ _) (fun b h1 h2 => by omega) (rel fun x hx => hx.2 (hG.wg.2.2.1 x)) (fun k hk _ => rel (hKk c.o (Agr.refl _ _) k hk))
   (hsit fun o' ho => rel (hKk o' (hsz ▸ ho) i hi)) rfl rfl (fun b hb y => ?_) ?_ hdf (fun y b hy => ?_) hwg hmode (fun _ => hrel) (fun e => absurd e hnp) hlt
 · rcases hw with rfl | ⟨a, v, ha, rfl⟩
   · rfl
   · exact cell?_eq (setCell_ne (ha ▸ (hG.ab b hb).2)) y
 · rw [hsz]
   exact hI.tr.appK hG (Nat.le_refl _) same (fun _ hc => hsz ▸ Nc.lt hc) hi g_ofEvents hok.1 hok.2
 · rw [hch y b hy]; exact hI.chan y b hy
theorem kid_release (hN : NetOK P ty Wg N) (hb : 0 < base) {c : Cf N} {t : Trace} (hI : Inv P ty Wg N Shun base T0 c t) {i : Nat} (hi : i < c.j) {g : Goroutine} (hg : c.gs[base + i]? = some g) (h8 : (c.D i).stage = 8) (hd : (c.D i).deaf = 0) (ha : N.act (c.D i).s = .done)
   (h : ∀ o', Agr c.w.heap.size c.o o' → KStop P ty Wg N (ownK o' i) (c.D i).s (c.D i).kg.Got (c.D i).kg.Rd g c.w) : Onward P ty Wg N Shun base T0 c t (runT P (crowd c.gs c.w c.sl) (base + i)) := by
 have h0 := (h c.o (Agr.refl _ _)).2
 rw [ha] at h0
 obtain ⟨_, g', hgo, m, hm⟩ := h0
 refine kid_quiet hN hb hI hi (stage := 6) (fuel := m) (deaf := 0) hg hgo (quietly_mk (by simp) (by simp) (by simp)) (.inl rfl) hI.wg (fun hk => .k1 ha (fun o' ho w₁ h₁ => ?_) hm) (by rw [hd]; exact deafBehind_one (by simp [mk]) (by simp [mk]) 0) ?_
   (Rels.new (by rw [hI.deafK i hi]; exact hd) hI.t0 _ _) (by simp) (.inl ⟨by omega, by rw [h8]; simp [cnt]⟩)
 · have hx := (h o' ho).2
   rw [ha] at hx
   exact hx.1 w₁ h₁
 · intro tag' ht _
   have hm := hI.mode.retag ht
   have eV : Vc c.j (fun k => (upd c.D i ⟨(c.D i).s, (c.D i).kg, 6, m, 0⟩ k).stage) = Vc c.j fun k => (c.D k).stage := by
     have := Vc_upd hi c.D ⟨(c.D i).s, (c.D i).kg, 6, m, 0⟩
     rw [h8] at this
     simp [cnt] at this
     exact this
   have hop : ∀ k, k < c.j → ((c.D k).stage = 8 ∨ (c.D k).stage = 6 ∨ (c.D k).stage = 5 ∨ (c.D k).stage = 1) → (upd c.D i ⟨(c.D i).s, (c.D i).kg, 6, m, 0⟩ k).stage = 8 ∨ (upd c.D i ⟨(c.D i).s, (c.D i).kg, 6, m, 0⟩ k).stage = 6 ∨ (upd c.D i ⟨(c.D i).s, (c.D i).kg, 6, m, 0⟩ k).stage = 5 ∨ (upd c.D i ⟨(c.D i).s, (c.D i).kg, 6, m, 0⟩ k).stage = 1 := fun k hk hh => by
     by_cases hki : k = i
     · subst hki; rw [upd_same]; exact .inr (.inl rfl)
     · rw [upd_ne _ _ hki]; exact hh
   generalize hst : c.st = st at hm ⊢
   generalize hsm : c.sm = sm at hm ⊢
   cases hm with
   | opn h1 h2 h3 => rw [← eV]; exact .opn h1 (fun k hk => hop k hk (h2 k hk)) (by rw [eV]; exact h3)
   | reg h1 h2 h3 => rw [← eV]; exact .reg h1 (fun k hk => hop k hk (h2 k hk)) (by rw [eV]; exact h3)
   | last L h1 h2 h3 h4 =>
     exfalso
     by_cases hL : i = L
     · subst hL; omega
     · have := h4 i hi hL; omega
   | sema h1 => have := h1 i hi; omega
   | fin _ h1 => have := h1 i hi; omega
theorem goes_elim' {s : GStep} {K : Goroutine → World → Array Event → Prop} (h : s.goes K) : ∃ g w es, s = .go g w es ∧ K g w es := by
 cases s <;> first | exact ⟨_, _, _, rfl, h⟩ | exact h.elim
theorem goes_now {Stop : Goroutine → World → Prop} {m : Nat} {g : Goroutine} {w : World} (h : Goes P false (RL ty Wg) DC0 Stop m g w) : Stop g w ∨ ∃ k g', m = k + 1 ∧ stepG P false g w = .go g' w #[] ∧ Goes P false (RL ty Wg) DC0 Stop k g' w := by
 cases m with
 | zero => exact .inl (h w id)
 | succ k =>
   rcases h with h | ⟨_, h⟩
   · exact .inl (h w id)
   · obtain ⟨g', w', es, e, ⟨rfl, rfl⟩, hh⟩ := goes_elim' (h w id)
     exact .inr ⟨k, g', rfl, e, hh⟩
theorem stages_upd {D : Nat → KDt N} {i : Nat} {x : KDt N} {j : Nat} {p : Nat → Prop} (hx : p x.stage) (h : ∀ k, k < j → k ≠ i → p (D k).stage) : ∀ k, k < j → p ((fun k => (upd D i x k).stage) k) := fun k hk => by
 show p (upd D i x k).stage
 by_cases hki : k = i
 · subst hki; rw [upd_same]; exact hx
 · rw [upd_ne _ _ hki]; exact h k hk hki
theorem sumTo_zero {f : Nat → Nat} : ∀ {j : Nat}, sumTo j f = 0 → ∀ i, i < j → f i = 0
 | j + 1, h, i, hi => by
   simp only [sumTo] at h
   rcases Nat.lt_or_ge i j with hlt | hge
   · exact sumTo_zero (j := j) (by omega) i hlt
   · obtain rfl : i = j := by omega
     omega
theorem rd_wr_quiet (a : Addr) (ha : a.block = Wg) : Quietly Wg #[rd a, wr a] ∧ Quietly Wg #[rd a] ∧ Quietly Wg #[wr a] ∧ Quietly Wg (semEvents a) := by
 refine ⟨quietly_acc fun e he => ?_, quietly_acc fun e he => ?_, quietly_acc fun e he => ?_, quietly_acc fun e he => ?_⟩
 all_goals simp only [semEvents, List.mem_toArray, List.mem_cons, List.not_mem_nil, or_false] at he
 · rcases he with rfl | rfl <;> exact .inl ⟨a, _, rfl, ha⟩
 · subst he; exact .inl ⟨a, _, rfl, ha⟩
 · subst he; exact .inl ⟨a, _, rfl, ha⟩
 · rcases he with rfl | rfl | rfl | rfl
   · exact .inr (.inl rfl)
   · exact .inl ⟨a, _, rfl, ha⟩
   · exact .inl ⟨a, _, rfl, ha⟩
   · exact .inr (.inr rfl)
theorem Rels.deafly {t : Trace} {k d : Nat} (h : Rels Wg T0 t k) (hd : Deaf t k = d) (fn : FuncId) (pos : String) (a : Addr) (ha : a.block = Wg) (hd0 : 0 < d) :
   Rels Wg T0 (t ++ MemOp.ofEvents k fn pos #[rd a, wr a]) k ∧ Rels Wg T0 (t ++ MemOp.ofEvents k fn pos #[rd a]) k ∧ Rels Wg T0 (t ++ MemOp.ofEvents k fn pos #[wr a]) k ∧ Rels Wg T0 (t ++ MemOp.ofEvents k fn pos (semEvents a)) k := by
 refine ⟨h.own fn pos _ fun j e he => ?_, h.own fn pos _ fun j e he => ?_, h.own fn pos _ fun j e he => ?_, h.own fn pos _ fun j e he => ?_⟩
 · rcases j with _ | _ | j <;> simp at he <;> subst he <;> refine .inr ⟨⟨a, _, rfl, ha⟩, ?_⟩ <;> simp [deafBehind, rd, wr, hd, hd0]
 · rcases j with _ | j <;> simp at he <;> subst he
   exact .inr ⟨⟨a, _, rfl, ha⟩, by simp [deafBehind, hd, hd0]⟩
 · rcases j with _ | j <;> simp at he <;> subst he
   exact .inr ⟨⟨a, _, rfl, ha⟩, by simp [deafBehind, hd, hd0]⟩
 · rcases j with _ | _ | _ | _ | j <;> simp [semEvents] at he <;> subst he
   · exact .inl rfl
   · exact .inr ⟨⟨a, _, rfl, ha⟩, by simp [deafBehind, semEvents]⟩
   · exact .inr ⟨⟨a, _, rfl, ha⟩, by simp [deafBehind, semEvents]⟩
   · exact .inl rfl
end
end Go.Proofs.Ytblpmdolclalnaa
