/- A walk in company that may allot: one goroutine's own steps, whatever the others do in between within a rely; behind each step it may take for granted that every block that the step made is its own (a prophecy); conditions: none, these are definitions and small laws. Rely and guarantee of a goroutine that owns blocks and cells; what is held of the trace while several .. -/
import Derived.Conc.CrowdComm
import Derived.Conc.CrowdBase
import Derived.Conc.Beside
import Derived.Conc.CompanyMem
import Derived.Conc.WgGenW
import Derived.Conc.CrowdRun
set_option maxHeartbeats 16000000
set_option linter.unusedSimpArgs false
set_option linter.unusedVariables false
namespace Go.Proofs.Ytblpmdolclalnaa
open Go.Conc
def New (own : Nat → Prop) (w w' : World) : Prop := ∀ b, w.heap.size ≤ b → b < w'.heap.size → own b
def Goo (P : Program) (main : Bool) (own : Nat → Prop) (R : World → World → Prop) (D : World → World → Array Event → Prop) (Stop : Goroutine → World → Prop) : Nat → Goroutine → World → Prop
 | 0, g, w => ∀ w₁, R w w₁ → Stop g w₁
 | n + 1, g, w => (∀ w₁, R w w₁ → Stop g w₁) ∨ (g.status = .running ∧ ∀ w₁, R w w₁ → (stepG P main g w₁).goes fun g' w' es => D w₁ w' es ∧ (New own w₁ w' → Goo P main own R D Stop n g' w'))
section
variable {P : Program} {main : Bool} {own : Nat → Prop} {R : World → World → Prop} {D : World → World → Array Event → Prop} {Stop : Goroutine → World → Prop}
theorem Goo.stop {n : Nat} {g : Goroutine} {w : World} (h : ∀ w₁, R w w₁ → Stop g w₁) : Goo P main own R D Stop n g w := by
 cases n with
 | zero => exact h
 | succ n => exact .inl h
theorem Goo.step {n : Nat} {g : Goroutine} {w : World} (hs : g.status = .running)
   (h : ∀ w₁, R w w₁ → (stepG P main g w₁).goes fun g' w' es => D w₁ w' es ∧ (New own w₁ w' → Goo P main own R D Stop n g' w')) : Goo P main own R D Stop (n + 1) g w := .inr ⟨hs, h⟩
theorem Goo.rely (trans : ∀ a b c, R a b → R b c → R a c) {n : Nat} {g : Goroutine} {w w₁ : World} (h : Goo P main own R D Stop n g w) (hr : R w w₁) : Goo P main own R D Stop n g w₁ := by
 cases n with
 | zero => exact fun w₂ h₂ => h w₂ (trans _ _ _ hr h₂)
 | succ n =>
   rcases h with h | ⟨hs, h⟩
   · exact .inl fun w₂ h₂ => h w₂ (trans _ _ _ hr h₂)
   · exact .inr ⟨hs, fun w₂ h₂ => h w₂ (trans _ _ _ hr h₂)⟩
theorem goes_mono {s : GStep} {K K' : Goroutine → World → Array Event → Prop} (h : s.goes K) (hK : ∀ g w es, K g w es → K' g w es) : s.goes K' := by
 cases s <;> first | exact hK _ _ _ h | exact h
theorem Goo.more {n : Nat} {g : Goroutine} {w : World} (h : Goo P main own R D Stop n g w) : Goo P main own R D Stop (n + 1) g w := by
 induction n generalizing g w with
 | zero => exact .inl h
 | succ n ih =>
   rcases h with h | ⟨hs, h⟩
   · exact .inl h
   · exact .inr ⟨hs, fun w₁ h₁ => goes_mono (h w₁ h₁) fun _ _ _ x => ⟨x.1, fun hn => ih (x.2 hn)⟩⟩
theorem Goo.mono {n n' : Nat} {g : Goroutine} {w : World} (h : Goo P main own R D Stop n g w) (hn : n ≤ n') : Goo P main own R D Stop n' g w := by
 induction hn with
 | refl => exact h
 | step _ ih => exact ih.more
theorem Goo.imp {Stop' : Goroutine → World → Prop} (hS : ∀ g w, Stop g w → Stop' g w) {n : Nat} {g : Goroutine} {w : World} (h : Goo P main own R D Stop n g w) : Goo P main own R D Stop' n g w := by
 induction n generalizing g w with
 | zero => exact fun w₁ h₁ => hS _ _ (h w₁ h₁)
 | succ n ih =>
   rcases h with h | ⟨hs, h⟩
   · exact .inl fun w₁ h₁ => hS _ _ (h w₁ h₁)
   · exact .inr ⟨hs, fun w₁ h₁ => goes_mono (h w₁ h₁) fun _ _ _ x => ⟨x.1, fun hn => ih (x.2 hn)⟩⟩
theorem Goo.of_goes {n : Nat} {g : Goroutine} {w : World} (h : Goes P main R D Stop n g w) : Goo P main own R D Stop n g w := by
 induction n generalizing g w with
 | zero => exact h
 | succ n ih =>
   rcases h with h | ⟨hs, h⟩
   · exact .inl h
   · exact .inr ⟨hs, fun w₁ h₁ => goes_mono (h w₁ h₁) fun _ _ _ x => ⟨x.1, fun _ => ih x.2⟩⟩
theorem Goo.bind (refl : ∀ a, R a a) {Stop' : Goroutine → World → Prop} {m : Nat} (hS : ∀ g w, Stop g w → Goo P main own R D Stop' m g w) {n : Nat} {g : Goroutine} {w : World}
   (h : Goo P main own R D Stop n g w) : Goo P main own R D Stop' (m + n) g w := by
 have key : ∀ (g : Goroutine) (w : World), (∀ w₁, R w w₁ → Stop g w₁) → Goo P main own R D Stop' m g w := by
   intro g w h
   exact hS g w (h w (refl w))
 induction n generalizing g w with
 | zero => exact key g w h
 | succ n ih =>
   rcases h with h | ⟨hs, h⟩
   · exact (key g w h).mono (by omega)
   · exact .inr ⟨hs, fun w₁ h₁ => goes_mono (h w₁ h₁) fun _ _ _ x => ⟨x.1, fun hn => ih (x.2 hn)⟩⟩
theorem Goo.running (refl : ∀ a, R a a) (hS : ∀ g w, Stop g w → g.status = .running) {n : Nat} {g : Goroutine} {w : World} (h : Goo P main own R D Stop n g w) : g.status = .running := by
 cases n with
 | zero => exact hS g w (h w (refl w))
 | succ n => exact h.elim (fun x => hS g w (x w (refl w))) (·.1)
theorem Goo.now (refl : ∀ a, R a a) {n : Nat} {g : Goroutine} {w : World} (h : Goo P main own R D Stop n g w) :
   Stop g w ∨ ∃ m, n = m + 1 ∧ (stepG P main g w).goes fun g' w' es => D w w' es ∧ (New own w w' → Goo P main own R D Stop m g' w') := by
 cases n with
 | zero => exact .inl (h w (refl w))
 | succ n => exact h.elim (fun x => .inl (x w (refl w))) (fun x => .inr ⟨n, rfl, x.2 w (refl w)⟩)
end
/-! ### A region that draws its order: the order is a list that the tape gives; a step at its head -/
section
variable {P : Program} {main : Bool} {own : Nat → Prop} {R : World → World → Prop} {D : World → World → Array Event → Prop} {Stop : Goroutine → World → Prop}
def lin (ops : Array Oper) (fuel t : Nat) (listed : Array Bool) : List Nat := Region.linearise.go .any ops fuel t listed []
theorem lin_zero (ops : Array Oper) (t : Nat) (listed : Array Bool) : lin ops 0 t listed = [] := by simp [lin, Region.linearise.go]
theorem lin_succ {ops : Array Oper} {fuel : Nat} {listed : Array Bool} {rs : List Nat} (hr : Region.ready .any ops listed = rs) (hne : rs ≠ []) (t : Nat) : ∃ i ∈ rs, ∃ t', lin ops (fuel + 1) t listed = i :: lin ops fuel t' (listed.setIfInBounds i true) := by
 subst hr
 generalize hrs : Region.ready .any ops listed = rs at hne
 have hlen : 0 < rs.length := List.length_pos_iff.2 hne
 have hlt : t % rs.length < rs.length := Nat.mod_lt _ hlen
 refine ⟨rs[t % rs.length], List.getElem_mem _, t / rs.length, ?_⟩
 unfold lin
 simp only [Region.linearise.go]
 change (match (Region.ready .any ops listed)[t % (Region.ready .any ops listed).length]? with
     | some i => Region.linearise.go .any ops fuel (t / (Region.ready .any ops listed).length) (listed.setIfInBounds i true) [i]
     | none => [].reverse) = _
 rw [hrs, List.getElem?_eq_getElem hlt]
 simp only []
 rw [linearise_go_acc]
 simp
theorem goo_lin {b : Frame} {a : Act} {k : List Item} {cs : List Frame} {w : World} {ops : Array Oper} {fuel : Nat} {listed : Array Bool} {n : Nat} {rs : List Nat} (hr : Region.ready .any ops listed = rs) (hne : rs ≠ [])
   (h : ∀ i ∈ rs, ∀ t, Goo P main own R D Stop n (G (b.at a (.inRegion ops (i :: lin ops fuel t (listed.setIfInBounds i true)) :: k)) cs) w) (t : Nat) :
   Goo P main own R D Stop n (G (b.at a (.inRegion ops (lin ops (fuel + 1) t listed) :: k)) cs) w := by
 obtain ⟨i, hi, t', e⟩ := lin_succ (fuel := fuel) hr hne t
 rw [e]
 exact h i hi t'
theorem goo_draw (hm : P.follows .mixedOrders = true) (hd : LetsDraw D) {b : Frame} {a : Act} {k : List Item} {cs : List Frame} {w : World} {id : Nat} {ops : Array Oper} {n : Nat}
   (h : ∀ w₁, R w w₁ → ∀ t, Goo P main own R D Stop n (G (b.at a (.inRegion ops (lin ops ops.size t (Array.replicate ops.size false)) :: k)) cs) { w₁ with drawn := w₁.drawn + 1 }) :
   Goo P main own R D Stop (n + 1) (G (b.at a (.code (.region id ops true) :: k)) cs) w :=
 Goo.step rfl fun w₁ h₁ => by
   rw [stepG_region_draw]
   refine ⟨hd _, fun _ => ?_⟩
   have := h w₁ h₁ (w₁.tape w₁.drawn (.order b.fn id))
   simp only [Region.schedule, hm, Bool.true_or, if_true]
   exact this
end
end Go.Proofs.Ytblpmdolclalnaa
namespace Go.Proofs.Ytblpmdolclalnaa
open Go.Conc
open Go.ConcR (WgAt)
open Go.ConcN (WgLive)
abbrev Cells := Nat → Nat → Prop
structure Rel (ty : TypeId) (Wg : Nat) (Keep : Cells) (w w₁ : World) : Prop where
 size : w.heap.size ≤ w₁.heap.size
 blk : ∀ b, b < w.heap.size → (∀ o, Keep b o) → w₁.heap[b]? = w.heap[b]?
 cell : ∀ b o, b < w.heap.size → Keep b o → w₁.cell? ⟨b, o, none⟩ = w.cell? ⟨b, o, none⟩
 form : ∀ (b : Nat) (c : Array Value) (e : TypeId) (f : Nat × Nat), w.heap[b]? = some (Obj.cells c e f) → ∃ c' : Array Value, w₁.heap[b]? = some (Obj.cells c' e f) ∧ c'.size = c.size
 live : WgLive ty Wg w → WgLive ty Wg w₁
 os : w₁.os = w.os
 out : w₁.output = w.output
 tape : w₁.tape = w.tape
def CS (w : World) (b : Nat) : Prop := ∃ cap buf cl s r tm, w.heap[b]? = some (Obj.chan cap buf cl s r tm)
def Nc (w : World) (b : Nat) : Prop := ¬ CS w b
theorem Nc.lt {w : World} {b : Nat} (h : ¬ Nc w b) : b < w.heap.size := by
 obtain ⟨_, _, _, _, _, _, h⟩ := Classical.not_not.1 h
 exact (Array.getElem?_eq_some_iff.1 h).1
theorem CS.eq {w w' : World} {b : Nat} (h : w'.heap[b]? = w.heap[b]?) : CS w' b ↔ CS w b := by unfold CS; rw [h]
def SameCh (w w' : World) : Prop := ∀ b, b < w.heap.size → (Nc w' b ↔ Nc w b)
theorem SameCh.refl (w : World) : SameCh w w := fun _ _ => Iff.rfl
theorem SameCh.put {w : World} {b₀ : Nat} {x ob : Obj} (hb : w.heap[b₀]? = some x) (h : (∃ cap buf cl s r tm, ob = Obj.chan cap buf cl s r tm) ↔ ∃ cap buf cl s r tm, x = Obj.chan cap buf cl s r tm) : SameCh w { w with heap := w.heap.setIfInBounds b₀ ob } := fun b _ => not_congr (by
 by_cases e : b = b₀
 · subst e
   have hlt := (Array.getElem?_eq_some_iff.1 hb).1
   unfold CS
   rw [hb]
   simp only [Array.getElem?_setIfInBounds_self_of_lt hlt, Option.some.injEq]
   exact h
 · exact CS.eq (Array.getElem?_setIfInBounds_ne (Ne.symm e)))
def EvOK (said : Bool) (Wg : Nat) (Writ Read : Cells) (n n' : Nat) (NC : Nat → Prop) (e : Event) : Prop :=
 (∃ (a : Addr) (wr sy : Bool), e = ⟨.cell a, wr, sy⟩ ∧ (sy = true → a.block ≠ Wg) ∧ a.block < n' ∧ (n ≤ a.block ∨ Writ a.block a.off ∨ (wr = false ∧ Read a.block a.off))) ∨
 (said = true ∧ ∃ (a : Addr) (s1 s2 : Bool), a.block = Wg ∧ (e = ⟨.mark (.read a), s1, s2⟩ ∨ e = ⟨.mark (.write a), s1, s2⟩)) ∨
 (said = true ∧ ∃ (b : Nat) (wr : Bool), e = ⟨.obj b, wr, false⟩ ∧ NC b ∧ b < n') ∨ e = ⟨.mark .noRoom, false, true⟩
structure Gua (said : Bool) (Wg : Nat) (Writ Read : Cells) (w w' : World) (es : Array Event) : Prop where
 size : w.heap.size ≤ w'.heap.size
 blk : ∀ b, b < w.heap.size → (∀ o, ¬ Writ b o) → w'.heap[b]? = w.heap[b]?
 cell : ∀ b o, b < w.heap.size → ¬ Writ b o → w'.cell? ⟨b, o, none⟩ = w.cell? ⟨b, o, none⟩
 form : ∀ (b : Nat) (c : Array Value) (e : TypeId) (f : Nat × Nat), w.heap[b]? = some (Obj.cells c e f) → ∃ c' : Array Value, w'.heap[b]? = some (Obj.cells c' e f) ∧ c'.size = c.size
 os : w'.os = w.os
 out : w'.output = w.output
 tape : w'.tape = w.tape
 kind : SameCh w w'
 evs : ∀ e ∈ es, EvOK said Wg Writ Read w.heap.size w'.heap.size (Nc w') e
section
variable {ty : TypeId} {Wg : Nat} {Keep : Cells} {w w₁ w₂ : World}
theorem Rel.refl (w : World) : Rel ty Wg Keep w w := ⟨Nat.le_refl _, fun _ _ _ => rfl, fun _ _ _ _ => rfl, fun _ c _ _ h => ⟨c, h, rfl⟩, id, rfl, rfl, rfl⟩
theorem Rel.trans (h : Rel ty Wg Keep w w₁) (h' : Rel ty Wg Keep w₁ w₂) : Rel ty Wg Keep w w₂ :=
 ⟨Nat.le_trans h.size h'.size, fun b hb k => (h'.blk b (Nat.lt_of_lt_of_le hb h.size) k).trans (h.blk b hb k), fun b o hb k => (h'.cell b o (Nat.lt_of_lt_of_le hb h.size) k).trans (h.cell b o hb k),
   fun b c e f hc => by
     obtain ⟨c', h1, h2⟩ := h.form b c e f hc
     obtain ⟨c'', h3, h4⟩ := h'.form b c' e f h1
     exact ⟨c'', h3, h4.trans h2⟩,
   h'.live ∘ h.live, h'.os.trans h.os, h'.out.trans h.out, h'.tape.trans h.tape⟩
theorem Rel.tr : ∀ a b c, Rel ty Wg Keep a b → Rel ty Wg Keep b c → Rel ty Wg Keep a c := fun _ _ _ h k => h.trans k
theorem Rel.at (w : World) (d : Nat) : Rel ty Wg Keep w (w.at d) := ⟨Nat.le_refl _, fun _ _ _ => rfl, fun _ _ _ _ => rfl, fun _ c _ _ h => ⟨c, h, rfl⟩, id, rfl, rfl, rfl⟩
theorem Rel.less {Keep' : Cells} (h : Rel ty Wg Keep w w₁) (hk : ∀ b o, b < w.heap.size → Keep' b o → Keep b o) : Rel ty Wg Keep' w w₁ :=
 ⟨h.size, fun b hb k => h.blk b hb fun o => hk b o hb (k o), fun b o hb k => h.cell b o hb (hk b o hb k), h.form, h.live, h.os, h.out, h.tape⟩
theorem cell?_eq {w w₁ : World} {b : Nat} (e : w₁.heap[b]? = w.heap[b]?) (o : Nat) : w₁.cell? ⟨b, o, none⟩ = w.cell? ⟨b, o, none⟩ := by simp [World.cell?, e]
theorem Gua.rel {said : Bool} {Writ Read : Cells} {es : Array Event} (h : Gua said Wg Writ Read w w₁ es) (hK : ∀ b o, b < w.heap.size → Keep b o → ¬ Writ b o) (hW : Wg < w.heap.size) (hWg : ∀ o, ¬ Writ Wg o) : Rel ty Wg Keep w w₁ :=
 ⟨h.size, fun b hb k => h.blk b hb fun o => hK b o hb (k o), fun b o hb k => h.cell b o hb (hK b o hb k), h.form, fun ⟨st, sm, hl⟩ => ⟨st, sm, hl.of_block (h.blk Wg hW hWg)⟩, h.os, h.out, h.tape⟩
theorem Gua.idle {said : Bool} {Writ Read : Cells} (w : World) : Gua said Wg Writ Read w w #[] := ⟨Nat.le_refl _, fun _ _ _ => rfl, fun _ _ _ _ => rfl, fun _ c _ _ h => ⟨c, h, rfl⟩, rfl, rfl, rfl, fun _ _ => Iff.rfl, fun e he => by simp at he⟩
theorem Gua.draw {said : Bool} {Writ Read : Cells} : LetsDraw (Gua said Wg Writ Read) := fun _ => ⟨Nat.le_refl _, fun _ _ _ => rfl, fun _ _ _ _ => rfl, fun _ c _ _ h => ⟨c, h, rfl⟩, rfl, rfl, rfl, fun _ _ => Iff.rfl, fun e he => by simp at he⟩
theorem Rel.turn {b₀ : Nat} {ob : Obj} (hb : ∃ x, w.heap[b₀]? = some x ∧ ∀ c e f, x = Obj.cells c e f → ∃ c' : Array Value, ob = Obj.cells c' e f ∧ c'.size = c.size) (hK : ∀ o, ¬ Keep b₀ o)
   (hl : WgLive ty Wg w → WgLive ty Wg { w with heap := w.heap.setIfInBounds b₀ ob }) : Rel ty Wg Keep w { w with heap := w.heap.setIfInBounds b₀ ob } := by
 obtain ⟨x, hx, hf⟩ := hb
 have hlt : b₀ < w.heap.size := (Array.getElem?_eq_some_iff.1 hx).1
 have ne : ∀ b, b ≠ b₀ → (w.heap.setIfInBounds b₀ ob)[b]? = w.heap[b]? := fun b hb => Array.getElem?_setIfInBounds_ne (Ne.symm hb)
 refine ⟨by simp, fun b hb k => ne b fun e => hK 0 (e ▸ k 0), fun b o hb k => cell?_eq (ne b fun e => hK o (e ▸ k)) o, fun b c e f h => ?_, hl, rfl, rfl, rfl⟩
 by_cases hbb : b = b₀
 · subst hbb
   rw [hx] at h
   obtain ⟨c', rfl, hs⟩ := hf c e f (Option.some.inj h)
   exact ⟨c', by simp [hlt], hs⟩
 · exact ⟨c, (ne b hbb).trans h, rfl⟩
end
/-! ### the trace -/
theorem touchAt_app {t u : Trace} {i : Nat} {a : Touch} (h : touchAt (t ++ u) i = some a) : (i < t.size ∧ touchAt t i = some a) ∨ (t.size ≤ i ∧ ∃ op ∈ u, (t ++ u)[i]? = some op ∧ op.act.touch? = some a) := by
 obtain ⟨op, hop, hoa⟩ := touch_of h
 rcases getElem?_append_cases hop with ⟨hi, hop'⟩ | ⟨hi, hopu⟩
 · exact .inl ⟨hi, by rw [touchAt_of hop']; exact hoa⟩
 · exact .inr ⟨hi, op, hopu, hop, hoa⟩
structure Past (Shun : Nat → Prop) (t : Trace) (n : Nat) : Prop where
 clean : ∀ said, ¬ Race said t
 known : ∀ i a, touchAt t i = some a → a.loc.isMemory = true → Knows t 0 i ∨ ((∃ ad : Addr, a.loc = .cell ad ∧ Shun ad.block) ∧ a.kind = .atomic)
 over : t.HandedOver
 hears : Deaf t 0 = 0
 seen : ∀ i a ad, touchAt t i = some a → a.loc = .cell ad → ad.block < n
 seenO : ∀ i a c, touchAt t i = some a → a.loc = .obj c → c < n
structure KG where
 Got : Cells
 Rd : Nat → Prop
def Sh (Wg : Nat) (AB NC : Nat → Prop) (l : Loc) : Prop := (∃ a : Addr, l = .cell a ∧ (a.block = Wg ∨ AB a.block)) ∨ ∃ c, l = .obj c ∧ ¬ NC c
structure Gh (Wg : Nat) (AB Shun : Nat → Prop) (o : Nat → Nat) (n : Nat) (Given : Cells) (Fz : Nat → Prop) (Ch : Nat → Prop) (j : Nat) (D : Nat → KG) : Prop where
 wg : Wg < n ∧ o Wg = 0 ∧ (∀ x, Given Wg x) ∧ ¬ Fz Wg ∧ ¬ Shun Wg
 ab : ∀ b, AB b → (b < n ∧ o b = 0 ∧ (∀ x, Given b x) ∧ ¬ Fz b ∧ ¬ Shun b) ∧ b ≠ Wg
 shun : ∀ b, Shun b → b < n ∧ o b = 0 ∧ ∀ x, Given b x
 fz : ∀ b, Fz b → b < n ∧ o b = 0 ∧ ∀ x, ¬ Given b x
 ch : ∀ c, Ch c → c < n ∧ o c = 0 ∧ c ≠ Wg ∧ ∀ x, Given c x
 given : ∀ b x, Given b x → b < n ∧ o b = 0
 got : ∀ i, i < j → ∀ b x, (D i).Got b x → Given b x ∧ ¬ Shun b ∧ ¬ (b = Wg ∨ AB b) ∧ ¬ Ch b
 rd : ∀ i, i < j → ∀ b, (D i).Rd b → Fz b
 apart : ∀ i i', i < j → i' < j → i ≠ i' → ∀ b x, (D i).Got b x → ¬ (D i').Got b x
 mine : ∀ b, b < n → o b ≤ j
structure Tr (Wg : Nat) (AB Shun : Nat → Prop) (o : Nat → Nat) (n : Nat) (Given : Cells) (Fz : Nat → Prop) (base j : Nat) (D : Nat → KG) (T0 : Nat) (NC : Nat → Prop) (t : Trace) : Prop where
 clean : ∀ said, ¬ Race said t
 seen : ∀ i a ad, touchAt t i = some a → a.loc = .cell ad → ad.block < n
 seenO : ∀ i a c, touchAt t i = some a → a.loc = .obj c → c < n
 main : ∀ a : Addr, a.block < n → o a.block = 0 → ¬ Given a.block a.off → Go.ConcN.PermW t 0 (.cell a) ∧ (¬ Fz a.block → Perm t 0 (.cell a))
 kid : ∀ i, i < j → ∀ a : Addr, a.block < n → (o a.block = i + 1 ∨ (D i).Got a.block a.off → Perm t (base + i) (.cell a)) ∧ ((D i).Rd a.block → Go.ConcN.PermW t (base + i) (.cell a))
 sh : ∀ i a, touchAt t i = some a → Sh Wg AB NC a.loc → (a.kind = .plain → ∀ g, (g = 0 ∨ ∃ k, k < j ∧ g = base + k) → Knows t g i) ∧ (a.kind = .said → Knows t 0 i)
 ob : ∀ i a c, touchAt t i = some a → a.loc = .obj c → NC c → Knows t 0 i
 acc : ∀ i a, touchAt t i = some a → a.loc.isMemory = true → Knows t 0 i ∨ ((∃ ad : Addr, a.loc = .cell ad ∧ (Shun ad.block ∨ ad.block = Wg)) ∧ a.kind = .atomic) ∨ ∃ k, k < j ∧ t.g? i = some (base + k)
 over : ∀ i g, t.g? i = some g → g ≠ 0 → t.counts i → (∃ q, t.g? q = some 0 ∧ HappensBefore t i q) ∨ ∃ k, k < j ∧ g = base + k
 norel : ∀ k a, T0 ≤ k → t.act? k ≠ some (.mark (.release a))
end Go.Proofs.Ytblpmdolclalnaa
namespace Go.Proofs.Ytblpmdolclalnaa
open Go.Conc
open Go.ConcN (PermW)
open Go.ConcR (stA)
def OkM (Wg : Nat) (AB : Nat → Prop) (o : Nat → Nat) (n n' : Nat) (NC : Nat → Prop) (Given : Cells) (Fz : Nat → Prop) (b : Touch) : Prop :=
 (∃ a : Addr, b.loc = .cell a ∧ a.block < n' ∧ o a.block = 0 ∧ (a.block < n → ¬ Given a.block a.off ∧ (¬ Fz a.block ∨ b.write = false))) ∨ (Sh Wg AB NC b.loc ∧ b.kind ≠ .plain) ∨ ∃ c, b.loc = .obj c ∧ NC c ∧ c < n'
def OkK (Wg : Nat) (AB : Nat → Prop) (o : Nat → Nat) (n n' : Nat) (NC : Nat → Prop) (kg : KG) (i : Nat) (b : Touch) : Prop :=
 (∃ a : Addr, b.loc = .cell a ∧ a.block < n' ∧ ((o a.block = i + 1 ∨ (a.block < n ∧ kg.Got a.block a.off)) ∨ (a.block < n ∧ kg.Rd a.block ∧ b.write = false))) ∨ (Sh Wg AB NC b.loc ∧ b.kind = .atomic)
section
variable {Wg : Nat} {AB Shun : Nat → Prop} {o : Nat → Nat} {n n' : Nat} {Given : Cells} {Fz Ch : Nat → Prop} {base j : Nat} {D : Nat → KG} {T0 : Nat} {NC NC' : Nat → Prop} {t u : Trace}
theorem Gh.sb (h : Gh Wg AB Shun o n Given Fz Ch j D) {b : Nat} (hb : b = Wg ∨ AB b) : b < n ∧ o b = 0 ∧ (∀ x, Given b x) ∧ ¬ Fz b ∧ ¬ Shun b := by
 rcases hb with rfl | hb
 · exact h.wg
 · exact (h.ab b hb).1
theorem Sh.cell {a : Addr} (h : Sh Wg AB NC (.cell a)) : a.block = Wg ∨ AB a.block := by
 rcases h with ⟨a', e, h⟩ | ⟨c, e, _⟩
 · cases e; exact h
 · cases e
theorem Sh.obj {c : Nat} (h : Sh Wg AB NC (.obj c)) : ¬ NC c := by
 rcases h with ⟨a', e, h⟩ | ⟨c', e, h⟩
 · cases e
 · cases e; exact h
theorem Tr.nc (h : Tr Wg AB Shun o n Given Fz base j D T0 NC t) (hN : ∀ b, b < n → (NC' b ↔ NC b)) : Tr Wg AB Shun o n Given Fz base j D T0 NC' t :=
 ⟨h.clean, h.seen, h.seenO, h.main, h.kid, fun i a ha hs => h.sh i a ha (by
   rcases hs with x | ⟨c, e, x⟩
   · exact .inl x
   · exact .inr ⟨c, e, fun y => x ((hN c (h.seenO i a c ha e)).2 y)⟩), fun i a c ha e hc => h.ob i a c ha e ((hN c (h.seenO i a c ha e)).1 hc), h.acc, h.over, h.norel⟩
theorem knows_new {g : Nat} (hu : ∀ op ∈ u, op.g = g) {i : Nat} {op : MemOp} (h : (t ++ u)[i]? = some op) (hm : op ∈ u) : Knows (t ++ u) g i := by
 have := knows_own h
 rwa [hu op hm] at this
theorem Tr.appM (hG : Gh Wg AB Shun o n Given Fz Ch j D) (h : Tr Wg AB Shun o n Given Fz base j D T0 NC t) (hn : n ≤ n') (hN : ∀ b, b < n → (NC' b ↔ NC b)) (hNn : ∀ c, ¬ NC' c → c < n')
   (hu : ∀ op ∈ u, op.g = 0) (hb : ∀ op ∈ u, ∀ b, op.act.touch? = some b → OkM Wg AB o n n' NC' Given Fz b) (hr : ∀ op ∈ u, ∀ a, op.act ≠ .mark (.release a)) : Tr Wg AB Shun o n' Given Fz base j D T0 NC' (t ++ u) := by
 have ng : ∀ a : Addr, n ≤ a.block → ¬ Given a.block a.off := fun a ha hg => by have := (hG.given _ _ hg).1; omega
 have nf : ∀ b, n ≤ b → ¬ Fz b := fun b ha hg => by have := (hG.fz _ hg).1; omega
 have shold : ∀ {i : Nat} {a : Touch}, touchAt t i = some a → Sh Wg AB NC' a.loc → Sh Wg AB NC a.loc := fun {i a} ha hs => by
   rcases hs with x | ⟨c, e, x⟩
   · exact .inl x
   · exact .inr ⟨c, e, fun y => x ((hN c (h.seenO i a c ha e)).2 y)⟩
 have shne : ∀ a : Addr, a.block < n → ¬ Given a.block a.off → ¬ Sh Wg AB NC' (.cell a) := fun a _ hg hs => hg ((hG.sb (Sh.cell hs)).2.2.1 _)
 refine ⟨fun said => ?_, fun i a ad ha hl => ?_, fun i a c ha hl => ?_, fun a hlt ho hg => ⟨?_, fun hf => ?_⟩, fun i hi a hlt => ⟨fun ho => ?_, fun hrd => ?_⟩, fun i a ha hs => ⟨fun hk g hgg => ?_, fun hk => ?_⟩, fun i a c ha hl hc => ?_, fun i a ha hm => ?_, fun i g hg hne hc => ?_, fun k a hk => ?_⟩
 · refine noRace_append (h.clean said) hu fun i a ha op hop b hbb hc => ?_
   rcases hb op hop b hbb with ⟨ad, hl, hlt, ho, hw⟩ | ⟨hs, hk⟩ | ⟨c, hl, hc', _⟩
   · have hal : a.loc = .cell ad := hc.1.trans hl
     have hlt' := h.seen i a ad ha hal
     obtain ⟨h1, h2⟩ := hw hlt'
     by_cases hf : Fz ad.block
     · have hbw : b.write = false := h2.resolve_left (fun x => x hf)
       refine (h.main ad hlt' ho h1).1 i a ha hal ?_
       rcases hc.2.2.1 with x | x
       · exact x
       · rw [hbw] at x; cases x
     · exact (h.main ad hlt' ho h1).2 hf i a ha hal
   · have hsa : Sh Wg AB NC a.loc := shold ha (hc.1 ▸ hs)
     rcases hc.2.2.2 with x | x | ⟨_, x, _⟩
     · exact (h.sh i a ha hsa).1 x 0 (.inl rfl)
     · exact absurd x hk
     · exact (h.sh i a ha hsa).2 x
   · have hal : a.loc = .obj c := hc.1.trans hl
     exact h.ob i a c ha hal ((hN c (h.seenO i a c ha hal)).1 hc')
 · rcases touchAt_app ha with ⟨_, ha'⟩ | ⟨_, op, hop, _, hoa⟩
   · exact Nat.lt_of_lt_of_le (h.seen i a ad ha' hl) hn
   · rcases hb op hop a hoa with ⟨ad', hl', hlt', _⟩ | ⟨hs, _⟩ | ⟨c, hl', _, _⟩
     · rw [hl] at hl'; cases hl'; exact hlt'
     · rw [hl] at hs
       exact Nat.lt_of_lt_of_le (hG.sb (Sh.cell hs)).1 hn
     · rw [hl] at hl'; cases hl'
 · rcases touchAt_app ha with ⟨_, ha'⟩ | ⟨_, op, hop, _, hoa⟩
   · exact Nat.lt_of_lt_of_le (h.seenO i a c ha' hl) hn
   · rcases hb op hop a hoa with ⟨ad', hl', _⟩ | ⟨hs, _⟩ | ⟨c', hl', _, hlt⟩
     · rw [hl] at hl'; cases hl'
     · rw [hl] at hs
       exact hNn c (Sh.obj hs)
     · rw [hl] at hl'; cases hl'; exact hlt
 · intro i x hx hl hw
   rcases touchAt_app hx with ⟨hi, hx'⟩ | ⟨_, op, hop, hio, _⟩
   · exact ((h.main a (h.seen i x a hx' hl) ho hg).1 i x hx' hl hw).app u
   · exact knows_new hu hio hop
 · intro i x hx hl
   rcases touchAt_app hx with ⟨hi, hx'⟩ | ⟨_, op, hop, hio, _⟩
   · exact ((h.main a (h.seen i x a hx' hl) ho hg).2 hf i x hx' hl).app u
   · exact knows_new hu hio hop
 · intro q x hx hl
   rcases touchAt_app hx with ⟨_, hx'⟩ | ⟨_, op, hop, hio, hoa⟩
   · exact ((h.kid i hi a (h.seen q x a hx' hl)).1 ho q x hx' hl).app u
   · exfalso
     rcases hb op hop x hoa with ⟨ad', hl', hlt', ho', hw'⟩ | ⟨hs, _⟩ | ⟨c, hl', _⟩
     · rw [hl] at hl'; cases hl'
       rcases ho with ho | hgot
       · omega
       · exact (hw' (hG.given _ _ (hG.got i hi _ _ hgot).1).1).1 (hG.got i hi _ _ hgot).1
     · rw [hl] at hs
       have hw := Sh.cell hs
       rcases ho with ho | hgot
       · rw [(hG.sb hw).2.1] at ho; omega
       · exact (hG.got i hi _ _ hgot).2.2.1 hw
     · rw [hl] at hl'; cases hl'
 · intro q x hx hl hw
   rcases touchAt_app hx with ⟨_, hx'⟩ | ⟨_, op, hop, hio, hoa⟩
   · exact ((h.kid i hi a (h.seen q x a hx' hl)).2 hrd q x hx' hl hw).app u
   · exfalso
     have hfz := hG.rd i hi _ hrd
     rcases hb op hop x hoa with ⟨ad', hl', hlt', ho', hw'⟩ | ⟨hs, _⟩ | ⟨c, hl', _⟩
     · rw [hl] at hl'; cases hl'
       rcases (hw' (hG.fz _ hfz).1).2 with x' | x'
       · exact x' hfz
       · rw [x'] at hw; cases hw
     · rw [hl] at hs
       exact (hG.sb (Sh.cell hs)).2.2.2.1 hfz
     · rw [hl] at hl'; cases hl'
 · rcases touchAt_app ha with ⟨_, ha'⟩ | ⟨_, op, hop, hio, hoa⟩
   · exact ((h.sh i a ha' (shold ha' hs)).1 hk g hgg).app u
   · exfalso
     rcases hb op hop a hoa with ⟨ad', hl', hlt', ho', hw'⟩ | ⟨_, hk'⟩ | ⟨c, hl', hc', _⟩
     · rw [hl'] at hs
       have hw := Sh.cell hs
       exact (hw' (hG.sb hw).1).1 ((hG.sb hw).2.2.1 _)
     · exact hk' hk
     · rw [hl'] at hs
       exact Sh.obj hs hc'
 · rcases touchAt_app ha with ⟨_, ha'⟩ | ⟨_, op, hop, hio, hoa⟩
   · exact ((h.sh i a ha' (shold ha' hs)).2 hk).app u
   · exact knows_new hu hio hop
 · rcases touchAt_app ha with ⟨_, ha'⟩ | ⟨_, op, hop, hio, hoa⟩
   · exact (h.ob i a c ha' hl ((hN c (h.seenO i a c ha' hl)).1 hc)).app u
   · exact knows_new hu hio hop
 · rcases touchAt_app ha with ⟨hi, ha'⟩ | ⟨_, op, hop, hio, hoa⟩
   · rcases h.acc i a ha' hm with x | x | ⟨k, hk, x⟩
     · exact .inl (x.app u)
     · exact .inr (.inl x)
     · exact .inr (.inr ⟨k, hk, by rw [g?_old hi]; exact x⟩)
   · exact .inl (knows_new hu hio hop)
 · rcases Nat.lt_or_ge i t.size with hi | hi
   · rw [g?_old hi] at hg
     rcases h.over i g hg hne ((counts_old hi).1 hc) with ⟨q, hq, hh⟩ | x
     · have hql : q < t.size := by
         unfold Trace.g? at hq
         obtain ⟨z, hz, _⟩ := Option.map_eq_some_iff.1 hq
         exact lt_size_of_getElem? hz
       exact .inl ⟨q, by rw [g?_old hql]; exact hq, hb_app u hh⟩
     · exact .inr x
   · obtain ⟨op, ho, hog⟩ := Option.map_eq_some_iff.1 hg
     rcases getElem?_append_cases ho with ⟨hlt, _⟩ | ⟨_, hm⟩
     · omega
     · rw [hu op hm] at hog; exact absurd hog.symm hne
 · intro e
   obtain ⟨op, ho, hoa⟩ := Option.map_eq_some_iff.1 e
   rcases getElem?_append_cases ho with ⟨hlt, ho'⟩ | ⟨_, hm⟩
   · exact h.norel k a hk (by rw [act?_of ho', hoa])
   · exact hr op hm a hoa
theorem Tr.appK (hG : Gh Wg AB Shun o n Given Fz Ch j D) (h : Tr Wg AB Shun o n Given Fz base j D T0 NC t) (hn : n ≤ n') (hN : ∀ b, b < n → (NC' b ↔ NC b)) (hNn : ∀ c, ¬ NC' c → c < n') {k : Nat} (hk : k < j)
   (hu : ∀ op ∈ u, op.g = base + k) (hb : ∀ op ∈ u, ∀ b, op.act.touch? = some b → OkK Wg AB o n n' NC' (D k) k b) (hr : ∀ op ∈ u, ∀ a, op.act ≠ .mark (.release a)) : Tr Wg AB Shun o n' Given Fz base j D T0 NC' (t ++ u) := by
 have shold : ∀ {i : Nat} {a : Touch}, touchAt t i = some a → Sh Wg AB NC' a.loc → Sh Wg AB NC a.loc := fun {i a} ha hs => by
   rcases hs with x | ⟨c, e, x⟩
   · exact .inl x
   · exact .inr ⟨c, e, fun y => x ((hN c (h.seenO i a c ha e)).2 y)⟩
 have ownlt : ∀ b, o b = k + 1 → ¬ (b = Wg ∨ AB b) := fun b hb e => by rw [(hG.sb e).2.1] at hb; omega
 refine ⟨fun said => ?_, fun i a ad ha hl => ?_, fun i a c ha hl => ?_, fun a hlt ho hg => ⟨?_, fun hf => ?_⟩, fun i hi a hlt => ⟨fun ho => ?_, fun hrd => ?_⟩, fun i a ha hs => ⟨fun hkk g hgg => ?_, fun hkk => ?_⟩, fun i a c ha hl hc => ?_, fun i a ha hm => ?_, fun i g hg hne hc => ?_, fun q a hq => ?_⟩
 · refine noRace_append (h.clean said) hu fun i a ha op hop b hbb hc => ?_
   rcases hb op hop b hbb with ⟨ad, hl, hlt, hw⟩ | ⟨hs, hk'⟩
   · have hal : a.loc = .cell ad := hc.1.trans hl
     have hlt' := h.seen i a ad ha hal
     rcases hw with hw | ⟨_, hrd, hbw⟩
     · exact (h.kid k hk ad hlt').1 (hw.imp id (·.2)) i a ha hal
     · refine (h.kid k hk ad hlt').2 hrd i a ha hal ?_
       rcases hc.2.2.1 with x | x
       · exact x
       · rw [hbw] at x; cases x
   · have hsa : Sh Wg AB NC a.loc := shold ha (hc.1 ▸ hs)
     rcases hc.2.2.2 with x | x | ⟨_, x, y⟩
     · exact (h.sh i a ha hsa).1 x _ (.inr ⟨k, hk, rfl⟩)
     · rw [hk'] at x; cases x
     · rw [hk'] at y; cases y
 · rcases touchAt_app ha with ⟨_, ha'⟩ | ⟨_, op, hop, _, hoa⟩
   · exact Nat.lt_of_lt_of_le (h.seen i a ad ha' hl) hn
   · rcases hb op hop a hoa with ⟨ad', hl', hlt', _⟩ | ⟨hs, _⟩
     · rw [hl] at hl'; cases hl'; exact hlt'
     · rw [hl] at hs
       exact Nat.lt_of_lt_of_le (hG.sb (Sh.cell hs)).1 hn
 · rcases touchAt_app ha with ⟨_, ha'⟩ | ⟨_, op, hop, _, hoa⟩
   · exact Nat.lt_of_lt_of_le (h.seenO i a c ha' hl) hn
   · rcases hb op hop a hoa with ⟨ad', hl', _⟩ | ⟨hs, _⟩
     · rw [hl] at hl'; cases hl'
     · rw [hl] at hs
       exact hNn c (Sh.obj hs)
 · intro i x hx hl hw
   rcases touchAt_app hx with ⟨hi, hx'⟩ | ⟨_, op, hop, hio, hoa⟩
   · exact ((h.main a (h.seen i x a hx' hl) ho hg).1 i x hx' hl hw).app u
   · exfalso
     rcases hb op hop x hoa with ⟨ad', hl', hlt', hw'⟩ | ⟨hs, _⟩
     · rw [hl] at hl'; cases hl'
       rcases hw' with (hw' | ⟨_, hw'⟩) | ⟨_, _, hw'⟩
       · omega
       · exact hg (hG.got k hk _ _ hw').1
       · rw [hw'] at hw; cases hw
     · rw [hl] at hs
       exact hg ((hG.sb (Sh.cell hs)).2.2.1 _)
 · intro i x hx hl
   rcases touchAt_app hx with ⟨hi, hx'⟩ | ⟨_, op, hop, hio, hoa⟩
   · exact ((h.main a (h.seen i x a hx' hl) ho hg).2 hf i x hx' hl).app u
   · exfalso
     rcases hb op hop x hoa with ⟨ad', hl', hlt', hw'⟩ | ⟨hs, _⟩
     · rw [hl] at hl'; cases hl'
       rcases hw' with (hw' | ⟨_, hw'⟩) | ⟨_, hrd, _⟩
       · omega
       · exact hg (hG.got k hk _ _ hw').1
       · exact hf (hG.rd k hk _ hrd)
     · rw [hl] at hs
       exact hg ((hG.sb (Sh.cell hs)).2.2.1 _)
 · intro q x hx hl
   rcases touchAt_app hx with ⟨_, hx'⟩ | ⟨_, op, hop, hio, hoa⟩
   · exact ((h.kid i hi a (h.seen q x a hx' hl)).1 ho q x hx' hl).app u
   · by_cases hik : i = k
     · subst hik; exact knows_new hu hio hop
     · exfalso
       rcases hb op hop x hoa with ⟨ad', hl', hlt', hw'⟩ | ⟨hs, _⟩
       · rw [hl] at hl'; cases hl'
         rcases hw' with (hw' | ⟨hlt2, hw'⟩) | ⟨hlt2, hrd, _⟩
         · rcases ho with ho | hgot
           · omega
           · have := (hG.given _ _ (hG.got i hi _ _ hgot).1).2; omega
         · rcases ho with ho | hgot
           · have := (hG.given _ _ (hG.got k hk _ _ hw').1).2; omega
           · exact hG.apart i k hi hk hik _ _ hgot hw'
         · have hfz := hG.fz _ (hG.rd k hk _ hrd)
           rcases ho with ho | hgot
           · omega
           · exact hfz.2.2 _ (hG.got i hi _ _ hgot).1
       · rw [hl] at hs
         have hw := Sh.cell hs
         rcases ho with ho | hgot
         · rw [(hG.sb hw).2.1] at ho; omega
         · exact (hG.got i hi _ _ hgot).2.2.1 hw
 · intro q x hx hl hw
   rcases touchAt_app hx with ⟨_, hx'⟩ | ⟨_, op, hop, hio, hoa⟩
   · exact ((h.kid i hi a (h.seen q x a hx' hl)).2 hrd q x hx' hl hw).app u
   · exfalso
     have hfz := hG.fz _ (hG.rd i hi _ hrd)
     rcases hb op hop x hoa with ⟨ad', hl', hlt', hw'⟩ | ⟨hs, _⟩
     · rw [hl] at hl'; cases hl'
       rcases hw' with (hw' | ⟨hlt2, hw'⟩) | ⟨hlt2, _, hw'⟩
       · omega
       · exact hfz.2.2 _ (hG.got k hk _ _ hw').1
       · rw [hw'] at hw; cases hw
     · rw [hl] at hs
       exact (hG.sb (Sh.cell hs)).2.2.2.1 (hG.rd i hi _ hrd)
 · rcases touchAt_app ha with ⟨_, ha'⟩ | ⟨_, op, hop, hio, hoa⟩
   · exact ((h.sh i a ha' (shold ha' hs)).1 hkk g hgg).app u
   · exfalso
     rcases hb op hop a hoa with ⟨ad', hl', hlt', hw'⟩ | ⟨_, hk'⟩
     · rw [hl'] at hs
       have hw := Sh.cell hs
       rcases hw' with (hw' | ⟨_, hw'⟩) | ⟨_, hrd, _⟩
       · exact ownlt _ hw' hw
       · exact (hG.got k hk _ _ hw').2.2.1 hw
       · exact (hG.sb hw).2.2.2.1 (hG.rd k hk _ hrd)
     · rw [hk'] at hkk; cases hkk
 · rcases touchAt_app ha with ⟨_, ha'⟩ | ⟨_, op, hop, hio, hoa⟩
   · exact ((h.sh i a ha' (shold ha' hs)).2 hkk).app u
   · exfalso
     rcases hb op hop a hoa with ⟨ad', hl', hlt', hw'⟩ | ⟨_, hk'⟩
     · rw [hl'] at hs
       have hw := Sh.cell hs
       rcases hw' with (hw' | ⟨_, hw'⟩) | ⟨_, hrd, _⟩
       · exact ownlt _ hw' hw
       · exact (hG.got k hk _ _ hw').2.2.1 hw
       · exact (hG.sb hw).2.2.2.1 (hG.rd k hk _ hrd)
     · rw [hk'] at hkk; cases hkk
 · rcases touchAt_app ha with ⟨_, ha'⟩ | ⟨_, op, hop, hio, hoa⟩
   · exact (h.ob i a c ha' hl ((hN c (h.seenO i a c ha' hl)).1 hc)).app u
   · exfalso
     rcases hb op hop a hoa with ⟨ad', hl', _⟩ | ⟨hs, _⟩
     · rw [hl] at hl'; cases hl'
     · rw [hl] at hs
       exact Sh.obj hs hc
 · rcases touchAt_app ha with ⟨hi, ha'⟩ | ⟨_, op, hop, hio, hoa⟩
   · rcases h.acc i a ha' hm with x | x | ⟨k', hk', x⟩
     · exact .inl (x.app u)
     · exact .inr (.inl x)
     · exact .inr (.inr ⟨k', hk', by rw [g?_old hi]; exact x⟩)
   · exact .inr (.inr ⟨k, hk, by simp [Trace.g?, hio, hu op hop]⟩)
 · rcases Nat.lt_or_ge i t.size with hi | hi
   · rw [g?_old hi] at hg
     rcases h.over i g hg hne ((counts_old hi).1 hc) with ⟨q, hq, hh⟩ | x
     · have hql : q < t.size := by
         unfold Trace.g? at hq
         obtain ⟨z, hz, _⟩ := Option.map_eq_some_iff.1 hq
         exact lt_size_of_getElem? hz
       exact .inl ⟨q, by rw [g?_old hql]; exact hq, hb_app u hh⟩
     · exact .inr x
   · obtain ⟨op, ho, hog⟩ := Option.map_eq_some_iff.1 hg
     rcases getElem?_append_cases ho with ⟨hlt, _⟩ | ⟨_, hm⟩
     · omega
     · exact .inr ⟨k, hk, by rw [← hog, hu op hm]⟩
 · intro e
   obtain ⟨op, ho, hoa⟩ := Option.map_eq_some_iff.1 e
   rcases getElem?_append_cases ho with ⟨hlt, ho'⟩ | ⟨_, hm⟩
   · exact h.norel q a hq (by rw [act?_of ho', hoa])
   · exact hr op hm a hoa
theorem Tr.appN (h : Tr Wg AB Shun o n Given Fz base j D T0 NC t) (hu : ∀ op ∈ u, op.act.touch? = none) (hr : ∀ op ∈ u, ∀ a, op.act ≠ .mark (.release a)) : Tr Wg AB Shun o n Given Fz base j D T0 NC (t ++ u) := by
 have old : ∀ {i : Nat} {a : Touch}, touchAt (t ++ u) i = some a → i < t.size ∧ touchAt t i = some a := by
   intro i a ha
   rcases touchAt_app ha with x | ⟨_, op, hop, _, hoa⟩
   · exact x
   · rw [hu op hop] at hoa; cases hoa
 refine ⟨fun said => ?_, fun i a ad ha hl => h.seen i a ad (old ha).2 hl, fun i a c ha hl => h.seenO i a c (old ha).2 hl, fun a hlt ho hg => ⟨fun i x hx hl hw => ((h.main a hlt ho hg).1 i x (old hx).2 hl hw).app u, fun hf i x hx hl => ((h.main a hlt ho hg).2 hf i x (old hx).2 hl).app u⟩,
   fun i hi a hlt => ⟨fun ho q x hx hl => ((h.kid i hi a hlt).1 ho q x (old hx).2 hl).app u, fun hrd q x hx hl hw => ((h.kid i hi a hlt).2 hrd q x (old hx).2 hl hw).app u⟩,
   fun i a ha hs => ⟨fun hk g hgg => ((h.sh i a (old ha).2 hs).1 hk g hgg).app u, fun hk => ((h.sh i a (old ha).2 hs).2 hk).app u⟩, fun i a c ha hl hc => (h.ob i a c (old ha).2 hl hc).app u, fun i a ha hm => ?_, fun i g hg hne hc => ?_, fun k a hk => ?_⟩
 · rintro ⟨i, q, hiq, ⟨a, b, ha, hb, hc⟩, n1, n2⟩
   have ha' := (old (a := a) ha).2
   have hb' := (old (a := b) hb).2
   exact h.clean said ⟨i, q, hiq, ⟨a, b, ha', hb', hc⟩, fun e => n1 (hb_app u e), fun e => n2 (hb_app u e)⟩
 · rcases h.acc i a (old ha).2 hm with x | x | ⟨k', hk', x⟩
   · exact .inl (x.app u)
   · exact .inr (.inl x)
   · exact .inr (.inr ⟨k', hk', by rw [g?_old (old ha).1]; exact x⟩)
 · rcases Nat.lt_or_ge i t.size with hi | hi
   · rw [g?_old hi] at hg
     rcases h.over i g hg hne ((counts_old hi).1 hc) with ⟨q, hq, hh⟩ | x
     · have hql : q < t.size := by
         unfold Trace.g? at hq
         obtain ⟨z, hz, _⟩ := Option.map_eq_some_iff.1 hq
         exact lt_size_of_getElem? hz
       exact .inl ⟨q, by rw [g?_old hql]; exact hq, hb_app u hh⟩
     · exact .inr x
   · obtain ⟨x, hx, _⟩ := hc
     have := (old (i := i) (a := x) hx).1
     omega
 · intro e
   obtain ⟨op, ho, hoa⟩ := Option.map_eq_some_iff.1 e
   rcases getElem?_append_cases ho with ⟨hlt, ho'⟩ | ⟨_, hm⟩
   · exact h.norel k a hk (by rw [act?_of ho', hoa])
   · exact hr op hm a hoa
/-! ### what goes over with a value, and with a go statement -/
theorem deaf_flat (hu : ∀ op ∈ u, op.act ≠ .mark .disable ∧ op.act ≠ .mark .enable) (g : Nat) : ∀ x, x ≤ u.size → (t ++ u).deaf g (t.size + x) = Deaf t g
 | 0, _ => deaf_old (Nat.le_refl _)
 | x + 1, hx => by
   have hlt : x < u.size := by omega
   have hy : (t ++ u)[t.size + x]? = some u[x] := by rw [Array.getElem?_append_right (by omega)]; simp [hlt]
   have e := deaf_succ (g := g) hy
   rw [deaf_flat hu g x (by omega)] at e
   rw [← Nat.add_assoc, e]
   have := hu u[x] (Array.getElem_mem hlt)
   unfold deafStep
   split
   · rename_i h; exact absurd h this.1
   · rename_i h; exact absurd h this.2
   · rfl
theorem heard_flat (hu : ∀ op ∈ u, op.act ≠ .mark .disable ∧ op.act ≠ .mark .enable) {x : Nat} {op : MemOp} (hx : u[x]? = some op) (hd : Deaf t op.g = 0) : (t ++ u).heard (t.size + x) := by
 have hlt := (Array.getElem?_eq_some_iff.1 hx).1
 refine ⟨op.g, ?_, by rw [deaf_flat hu op.g x (by omega)]; exact hd⟩
 simp [Trace.g?, Array.getElem?_append_right, hx]
theorem Deaf_flat (hu : ∀ op ∈ u, op.act ≠ .mark .disable ∧ op.act ≠ .mark .enable) (g : Nat) : Deaf (t ++ u) g = Deaf t g := by
 have := deaf_flat (t := t) hu g u.size (Nat.le_refl _)
 unfold Deaf at this ⊢
 simpa using this
theorem hand_knows (hu : ∀ op ∈ u, op.act ≠ .mark .disable ∧ op.act ≠ .mark .enable) {p q c k : Nat} {x y : MemOp} (hp : u[p]? = some x) (hx : x.act = .send c k) (hq : u[q]? = some y) (hy : y.act = .recvDone c k)
   (ds : Deaf t x.g = 0) (dr : Deaf t y.g = 0) {i : Nat} (h : Knows t x.g i) : Knows (t ++ u) y.g i := by
 have hp' : (t ++ u)[t.size + p]? = some x := by rw [Array.getElem?_append_right (by omega)]; simpa using hp
 have hq' : (t ++ u)[t.size + q]? = some y := by rw [Array.getElem?_append_right (by omega)]; simpa using hq
 have h1 : HappensBefore (t ++ u) i (t.size + p) := h.hb_new (by omega) hp' rfl
 have h2 : HappensBefore (t ++ u) (t.size + p) (t.size + q) :=
   .single (.inr ⟨.handOver (c := c) (k := k) (by rw [act?_of hp', hx]) (by rw [act?_of hq', hy]), heard_flat hu hp ds, heard_flat hu hq dr⟩)
 exact ⟨t.size + q, y, hq', rfl, .inr (h1.trans h2)⟩
theorem old_touch {i : Nat} {a : Touch} (hu : ∀ op ∈ u, op.act.touch? = none) (h : touchAt (t ++ u) i = some a) : touchAt t i = some a := by
 rcases touchAt_app h with x | ⟨_, op, hop, _, hoa⟩
 · exact x.2
 · rw [hu op hop] at hoa; cases hoa
theorem Tr.give (h : Tr Wg AB Shun o n Given Fz base j D T0 NC t) {k : Nat} {S : Cells} (hS : ∀ b x, S b x → b < n ∧ o b = 0 ∧ ¬ Given b x ∧ ¬ Fz b)
   (hu : ∀ op ∈ u, op.act.touch? = none) (hr : ∀ op ∈ u, ∀ a, op.act ≠ .mark (.release a)) (hkn : ∀ i, Knows t 0 i → Knows (t ++ u) (base + k) i) : Tr Wg AB Shun o n (fun b x => Given b x ∨ S b x) Fz base j (Go.ConcN.upd D k ⟨fun b x => (D k).Got b x ∨ S b x, (D k).Rd⟩) T0 NC (t ++ u) := by
 have h' := h.appN hu hr
 refine ⟨h'.clean, h'.seen, h'.seenO, fun a hlt ho hg => h'.main a hlt ho fun x => hg (.inl x), fun i hi a hlt => ?_, h'.sh, h'.ob, h'.acc, h'.over, h'.norel⟩
 by_cases hik : i = k
 · subst hik
   rw [Go.ConcN.upd_same]
   refine ⟨fun ho => ?_, fun hrd => (h'.kid i hi a hlt).2 hrd⟩
   rcases ho with ho | ho | ho
   · exact (h'.kid i hi a hlt).1 (.inl ho)
   · exact (h'.kid i hi a hlt).1 (.inr ho)
   · obtain ⟨_, h0, hg, hf⟩ := hS _ _ ho
     exact fun q x hx hl => hkn q ((h.main a hlt h0 hg).2 hf q x (old_touch hu hx) hl)
 · rw [Go.ConcN.upd_ne _ _ hik]
   exact h'.kid i hi a hlt
theorem Gh.give (hG : Gh Wg AB Shun o n Given Fz Ch j D) {k : Nat} {S : Cells} (hS : ∀ b x, S b x → b < n ∧ o b = 0 ∧ ¬ Given b x ∧ ¬ Fz b) :
   Gh Wg AB Shun o n (fun b x => Given b x ∨ S b x) Fz Ch j (Go.ConcN.upd D k ⟨fun b x => (D k).Got b x ∨ S b x, (D k).Rd⟩) := by
 have key : ∀ i, (Go.ConcN.upd D k ⟨fun b x => (D k).Got b x ∨ S b x, (D k).Rd⟩ i).Rd = (D i).Rd := fun i => by
   by_cases hik : i = k
   · subst hik; rw [Go.ConcN.upd_same]
   · rw [Go.ConcN.upd_ne _ _ hik]
 have got : ∀ i b x, (Go.ConcN.upd D k ⟨fun b x => (D k).Got b x ∨ S b x, (D k).Rd⟩ i).Got b x → (D i).Got b x ∨ (i = k ∧ S b x) := fun i b x hh => by
   by_cases hik : i = k
   · subst hik; rw [Go.ConcN.upd_same] at hh; exact hh.imp id fun y => ⟨rfl, y⟩
   · rw [Go.ConcN.upd_ne _ _ hik] at hh; exact .inl hh
 refine ⟨⟨hG.wg.1, hG.wg.2.1, fun x => .inl (hG.wg.2.2.1 x), hG.wg.2.2.2⟩, fun b hb => (let ⟨⟨h1, h2, h3, h4⟩, h5⟩ := hG.ab b hb; ⟨⟨h1, h2, fun x => .inl (h3 x), h4⟩, h5⟩), fun b hb => ⟨(hG.shun b hb).1, (hG.shun b hb).2.1, fun x => .inl ((hG.shun b hb).2.2 x)⟩, fun b hb => ⟨(hG.fz b hb).1, (hG.fz b hb).2.1, fun x hx => hx.elim ((hG.fz b hb).2.2 x) fun y => (hS _ _ y).2.2.2 hb⟩,
   fun c hc => ⟨(hG.ch c hc).1, (hG.ch c hc).2.1, (hG.ch c hc).2.2.1, fun x => .inl ((hG.ch c hc).2.2.2 x)⟩, fun b x hx => hx.elim (hG.given b x) fun y => ⟨(hS _ _ y).1, (hS _ _ y).2.1⟩, fun i hi b x hx => ?_, fun i hi b hb => hG.rd i hi b (by rw [← key i]; exact hb), fun i i' hi hi' hne b x hx hx' => ?_, hG.mine⟩
 · rcases got i b x hx with y | ⟨_, y⟩
   · exact ⟨.inl (hG.got i hi b x y).1, (hG.got i hi b x y).2⟩
   · obtain ⟨h1, h2, h3, h4⟩ := hS _ _ y
     exact ⟨.inr y, fun hs => h3 ((hG.shun b hs).2.2 x), fun e => h3 ((hG.sb e).2.2.1 x), fun hc => h3 ((hG.ch b hc).2.2.2 x)⟩
 · rcases got i b x hx with y | ⟨rfl, y⟩ <;> rcases got i' b x hx' with y' | ⟨rfl, y'⟩
   · exact hG.apart i i' hi hi' hne b x y y'
   · exact (hS _ _ y').2.2.1 (hG.got i hi b x y).1
   · exact (hS _ _ y).2.2.1 (hG.got i' hi' b x y').1
   · exact hne rfl
structure Hand (o : Nat → Nat) (n : Nat) (Given : Cells) (Fz : Nat → Prop) (give : Cells) (rd chs : Nat → Prop) : Prop where
 giv : ∀ b x, give b x → b < n ∧ o b = 0 ∧ ¬ Given b x ∧ ¬ Fz b ∧ ¬ chs b
 red : ∀ b, rd b → b < n ∧ o b = 0 ∧ (∀ x, ¬ Given b x ∧ ¬ give b x) ∧ ¬ chs b
 chn : ∀ c, chs c → c < n ∧ o c = 0 ∧ (∀ x, ¬ Given c x) ∧ ¬ Fz c
theorem Tr.spawn (h : Tr Wg AB Shun o n Given Fz base j D T0 NC t) {give : Cells} {rd chs : Nat → Prop} (hH : Hand o n Given Fz give rd chs) (hu : ∀ op ∈ u, op.act.touch? = none) (hr : ∀ op ∈ u, ∀ a, op.act ≠ .mark (.release a))
   (hkn : ∀ i, Knows t 0 i → Knows (t ++ u) (base + j) i) (hmine : ∀ b, b < n → o b ≤ j) :
   Tr Wg AB Shun o n (fun b x => Given b x ∨ give b x ∨ chs b) (fun b => Fz b ∨ rd b) base (j + 1) (Go.ConcN.upd D j ⟨give, rd⟩) T0 NC (t ++ u) := by
 have h' := h.appN hu hr
 refine ⟨h'.clean, h'.seen, h'.seenO, fun a hlt ho hg => ⟨(h'.main a hlt ho fun x => hg (.inl x)).1, fun hf => (h'.main a hlt ho fun x => hg (.inl x)).2 fun x => hf (.inl x)⟩, fun i hi a hlt => ?_,
   fun i a ha hs => ⟨fun hk g hg => ?_, (h'.sh i a ha hs).2⟩, h'.ob, fun i a ha hm => ?_, fun i g hg hne hc => ?_, h'.norel⟩
 · rcases Nat.lt_or_ge i j with hlt' | hge
   · rw [Go.ConcN.upd_ne _ _ (by omega)]
     exact h'.kid i hlt' a hlt
   · obtain rfl : i = j := by omega
     rw [Go.ConcN.upd_same]
     refine ⟨fun ho => ?_, fun hrd => ?_⟩
     · rcases ho with ho | ho
       · have := hmine _ hlt; omega
       · obtain ⟨_, h0, hg, hf, _⟩ := hH.giv _ _ ho
         exact fun q x hx hl => hkn q ((h.main a hlt h0 hg).2 hf q x (old_touch hu hx) hl)
     · obtain ⟨_, h0, hg, _⟩ := hH.red _ hrd
       exact fun q x hx hl hw => hkn q ((h.main a hlt h0 (hg _).1).1 q x (old_touch hu hx) hl hw)
 · rcases hg with rfl | ⟨k, hk', rfl⟩
   · exact (h'.sh i a ha hs).1 hk 0 (.inl rfl)
   · rcases Nat.lt_or_ge k j with hlt' | hge
     · exact (h'.sh i a ha hs).1 hk _ (.inr ⟨k, hlt', rfl⟩)
     · obtain rfl : k = j := by omega
       exact hkn i ((h.sh i a (old_touch hu ha) hs).1 hk 0 (.inl rfl))
 · rcases h'.acc i a ha hm with x | x | ⟨k', hk', x⟩
   · exact .inl x
   · exact .inr (.inl x)
   · exact .inr (.inr ⟨k', by omega, x⟩)
 · rcases h'.over i g hg hne hc with x | ⟨k', hk', x⟩
   · exact .inl x
   · exact .inr ⟨k', by omega, x⟩
theorem Gh.spawn (hG : Gh Wg AB Shun o n Given Fz Ch j D) {give : Cells} {rd chs : Nat → Prop} (hH : Hand o n Given Fz give rd chs) :
   Gh Wg AB Shun o n (fun b x => Given b x ∨ give b x ∨ chs b) (fun b => Fz b ∨ rd b) (fun c => Ch c ∨ chs c) (j + 1) (Go.ConcN.upd D j ⟨give, rd⟩) := by
 have case : ∀ i, i < j + 1 → (i < j ∧ Go.ConcN.upd D j ⟨give, rd⟩ i = D i) ∨ (i = j ∧ Go.ConcN.upd D j ⟨give, rd⟩ i = ⟨give, rd⟩) := fun i hi => by
   rcases Nat.lt_or_ge i j with hlt | hge
   · exact .inl ⟨hlt, Go.ConcN.upd_ne _ _ (by omega)⟩
   · obtain rfl : i = j := by omega
     exact .inr ⟨rfl, Go.ConcN.upd_same _ _ _⟩
 refine ⟨⟨hG.wg.1, hG.wg.2.1, fun x => .inl (hG.wg.2.2.1 x), fun hf => ?_, hG.wg.2.2.2.2⟩, fun b hb => (let ⟨⟨h1, h2, h3, h4, h5⟩, h6⟩ := hG.ab b hb; ⟨⟨h1, h2, fun x => .inl (h3 x), fun hf => hf.elim h4 fun hf => ((hH.red _ hf).2.2.1 0).1 (h3 0), h5⟩, h6⟩), fun b hb => ⟨(hG.shun b hb).1, (hG.shun b hb).2.1, fun x => .inl ((hG.shun b hb).2.2 x)⟩, fun b hb => ?_, fun c hc => ?_, fun b x hx => ?_,
   fun i hi b x hx => ?_, fun i hi b hb => ?_, fun i i' hi hi' hne b x hx hx' => ?_, fun b hb => Nat.le_succ_of_le (hG.mine b hb)⟩
 · rcases hf with hf | hf
   · exact hG.wg.2.2.2.1 hf
   · exact ((hH.red _ hf).2.2.1 0).1 (hG.wg.2.2.1 0)
 · rcases hb with hb | hb
   · refine ⟨(hG.fz b hb).1, (hG.fz b hb).2.1, fun x hx => ?_⟩
     rcases hx with hx | hx | hx
     · exact (hG.fz b hb).2.2 x hx
     · exact (hH.giv _ _ hx).2.2.2.1 hb
     · exact (hH.chn _ hx).2.2.2 hb
   · refine ⟨(hH.red b hb).1, (hH.red b hb).2.1, fun x hx => ?_⟩
     rcases hx with hx | hx | hx
     · exact ((hH.red b hb).2.2.1 x).1 hx
     · exact ((hH.red b hb).2.2.1 x).2 hx
     · exact (hH.red b hb).2.2.2 hx
 · rcases hc with hc | hc
   · exact ⟨(hG.ch c hc).1, (hG.ch c hc).2.1, (hG.ch c hc).2.2.1, fun x => .inl ((hG.ch c hc).2.2.2 x)⟩
   · exact ⟨(hH.chn c hc).1, (hH.chn c hc).2.1, fun e => (hH.chn c hc).2.2.1 0 (e ▸ hG.wg.2.2.1 0), fun x => .inr (.inr hc)⟩
 · rcases hx with hx | hx | hx
   · exact hG.given b x hx
   · exact ⟨(hH.giv _ _ hx).1, (hH.giv _ _ hx).2.1⟩
   · exact ⟨(hH.chn _ hx).1, (hH.chn _ hx).2.1⟩
 · rcases case i hi with ⟨hlt, e⟩ | ⟨rfl, e⟩
   · rw [e] at hx
     have := hG.got i hlt b x hx
     exact ⟨.inl this.1, this.2.1, this.2.2.1, fun hc => hc.elim this.2.2.2 fun y => (hH.chn b y).2.2.1 x this.1⟩
   · rw [e] at hx
     obtain ⟨h1, h2, h3, h4, h5⟩ := hH.giv b x hx
     exact ⟨.inr (.inl hx), fun hs => h3 ((hG.shun b hs).2.2 x), fun e' => h3 ((hG.sb e').2.2.1 x), fun hc => hc.elim (fun y => h3 ((hG.ch b y).2.2.2 x)) h5⟩
 · rcases case i hi with ⟨hlt, e⟩ | ⟨rfl, e⟩
   · rw [e] at hb; exact .inl (hG.rd i hlt b hb)
   · rw [e] at hb; exact .inr hb
 · rcases case i hi with ⟨hlt, e⟩ | ⟨rfl, e⟩ <;> rcases case i' hi' with ⟨hlt', e'⟩ | ⟨rfl, e'⟩ <;> rw [e] at hx <;> rw [e'] at hx'
   · exact hG.apart i i' hlt hlt' hne b x hx hx'
   · exact (hH.giv b x hx').2.2.1 (hG.got i hlt b x hx).1
   · exact (hH.giv b x hx).2.2.1 (hG.got i' hlt' b x hx').1
   · exact hne rfl
theorem Tr.init (hP : Past Shun t n) (hsh : ∀ b, (b = Wg ∨ AB b) → ¬ Shun b) :
   Tr Wg AB Shun (fun _ => 0) n (fun b _ => b < n ∧ (Shun b ∨ b = Wg ∨ AB b)) (fun _ => False) base 0 D t.size NC t := by
 refine ⟨hP.clean, hP.seen, hP.seenO, fun a hlt _ hg => ?_, fun i hi => by omega, fun i a ha hs => ?_, fun i a c ha hl _ => ?_, fun i a ha hm => ?_, fun i g hg hne hc => ?_, fun k a hk e => ?_⟩
 · have all : Perm t 0 (.cell a) := fun i x hx hl => by
     rcases hP.known i x hx (by rw [hl]; rfl) with y | ⟨⟨ad, hl', hs⟩, _⟩
     · exact y
     · rw [hl] at hl'; cases hl'; exact absurd ⟨hlt, .inl hs⟩ hg
   exact ⟨fun i x hx hl _ => all i x hx hl, fun _ => all⟩
 · have hk : Knows t 0 i := by
     rcases hP.known i a ha (by rcases hs with ⟨ad, e, _⟩ | ⟨c, e, _⟩ <;> rw [e] <;> rfl) with y | ⟨⟨ad, hl', hsu⟩, _⟩
     · exact y
     · rw [hl'] at hs; exact absurd hsu (hsh _ (Sh.cell hs))
   exact ⟨fun _ g hg => by
     rcases hg with rfl | ⟨k, hk', _⟩
     · exact hk
     · omega, fun _ => hk⟩
 · rcases hP.known i a ha (by rw [hl]; rfl) with y | ⟨⟨ad, hl', _⟩, _⟩
   · exact y
   · rw [hl] at hl'; cases hl'
 · rcases hP.known i a ha hm with y | ⟨⟨ad, hl', hsu⟩, hkk⟩
   · exact .inl y
   · exact .inr (.inl ⟨⟨ad, hl', .inl hsu⟩, hkk⟩)
 · obtain ⟨q, hq, hh⟩ := hP.over i g hg hne hc
   exact .inl ⟨q, hq, hh⟩
 · have := lt_of_act? e; omega
theorem Gh.init (hs : ∀ b, Shun b → b < n) (hw : ∀ b, (b = Wg ∨ AB b) → b < n) (hn : ∀ b, (b = Wg ∨ AB b) → ¬ Shun b) (hne : ∀ b, AB b → b ≠ Wg) : Gh Wg AB Shun (fun _ => 0) n (fun b _ => b < n ∧ (Shun b ∨ b = Wg ∨ AB b)) (fun _ => False) (fun _ => False) 0 D :=
 ⟨⟨hw _ (.inl rfl), rfl, fun _ => ⟨hw _ (.inl rfl), .inr (.inl rfl)⟩, id, hn _ (.inl rfl)⟩, fun b hb => ⟨⟨hw b (.inr hb), rfl, fun _ => ⟨hw b (.inr hb), .inr (.inr hb)⟩, id, hn b (.inr hb)⟩, hne b hb⟩, fun b hb => ⟨hs b hb, rfl, fun _ => ⟨hs b hb, .inl hb⟩⟩, fun _ h => h.elim, fun _ h => h.elim, fun b x h => ⟨h.1, rfl⟩, fun i hi => by omega, fun i hi => by omega, fun i _ hi => by omega, fun _ _ => Nat.le_refl _⟩
theorem Tr.past (h : Tr Wg AB Shun o n Given Fz base j D T0 NC t) {q : Nat} (hq : t.act? q = some (.mark (.acquire (stA Wg)))) (hg : t.g? q = some 0) (hh : t.heard q) (hd : Deaf t 0 = 0)
   (hrel : ∀ k, k < j → ∃ r, T0 ≤ r ∧ r < q ∧ Go.ConcN.RelBy (stA Wg) t (base + k) r ∧ ∀ i a, r < i → t.g? i = some (base + k) → touchAt t i = some a → (∃ ad : Addr, a.loc = .cell ad ∧ ad.block = Wg) ∧ a.kind = .atomic) :
   Past (fun b => Shun b ∨ b = Wg) t n := by
 have edge : ∀ k, k < j → ∀ i, t.g? i = some (base + k) → (∃ q', t.g? q' = some 0 ∧ HappensBefore t i q') ∨ (∃ r, r < i ∧ Go.ConcN.RelBy (stA Wg) t (base + k) r ∧ ∀ a, touchAt t i = some a → (∃ ad : Addr, a.loc = .cell ad ∧ ad.block = Wg) ∧ a.kind = .atomic) := by
   intro k hk i hi
   obtain ⟨r, hTr, hrq, hr, ha⟩ := hrel k hk
   have e : HappensBefore t r q := .single (.inr ⟨.marked hrq (.inr hr.act) hq (fun x hx _ => h.norel x _ (by omega)), hr.heard, hh⟩)
   rcases Nat.lt_trichotomy i r with hlt | rfl | hgt
   · exact .inl ⟨q, hg, .trans (.single (.inl ⟨hlt, _, hi, hr.g⟩)) e⟩
   · exact .inl ⟨q, hg, e⟩
   · exact .inr ⟨r, hgt, hr, fun a => ha i a hgt hi⟩
 refine ⟨h.clean, fun i a ha hm => ?_, fun i g hgi hne hc => ?_, hd, h.seen, h.seenO⟩
 · rcases h.acc i a ha hm with x | ⟨⟨ad, hl, hx⟩, hk⟩ | ⟨k, hk, hgk⟩
   · exact .inl x
   · exact .inr ⟨⟨ad, hl, hx⟩, hk⟩
   · rcases edge k hk i hgk with ⟨q', hq', hb⟩ | ⟨r, _, _, hx⟩
     · obtain ⟨z, hz, hzg⟩ := Option.map_eq_some_iff.1 hq'
       exact .inl ⟨q', z, hz, hzg, .inr hb⟩
     · obtain ⟨⟨ad, hl, hx'⟩, hka⟩ := hx a ha
       exact .inr ⟨⟨ad, hl, .inr hx'⟩, hka⟩
 · rcases h.over i g hgi hne hc with x | ⟨k, hk, rfl⟩
   · exact x
   · rcases edge k hk i hgi with x | ⟨r, hri, hr, _⟩
     · exact x
     · exact absurd hc (hr.after i hri hgi)
end
end Go.Proofs.Ytblpmdolclalnaa
