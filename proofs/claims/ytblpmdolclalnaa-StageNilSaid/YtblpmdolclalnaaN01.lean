/- A walk in company that may allot: one goroutine's own steps, whatever the others do in between within a rely; behind each step it may take for granted that every block that the step made is its own (a prophecy); conditions: none, these are definitions and small laws. Rely and guarantee of a goroutine that owns blocks and cells; what is held of the trace while several .. -/
import Derived.Conc.CrowdComm
import Derived.Conc.CrowdBase
import Derived.Conc.Beside
import Derived.Conc.CompanyMem
import Derived.Conc.WgGenW
import Derived.Conc.CrowdRun
import Derived.Conc.AppendWalk
import Derived.ArgAppend
set_option maxHeartbeats 16000000
set_option linter.unusedSimpArgs false
set_option linter.unusedVariables false
namespace Go.Proofs.Ytblpmdolclalnaa
open Go.Conc
def New (own : Nat → Prop) (w w' : World) : Prop := ∀ b, w.heap.size ≤ b → b < w'.heap.size → own b
def Goo (P : Program) (main : Bool) (own : Nat → Prop) (R : World → World → Prop) (D : World → World → Array Event → Prop) (Stop : Goroutine → World → Prop) : Nat → Goroutine → World → Prop
 | 0, g, w => ∀ w₁, R w w₁ → Stop g w₁
 | n + 1, g, w => (∀ w₁, R w w₁ → Stop g w₁) ∨ (g.status = .running ∧ ∀ w₁, R w w₁ → (stepG P main g w₁).goes fun g' w' es => D w₁ w' es ∧ (New own w₁ w' → Goo P main own R D Stop n g' w'))
section
variable {P : Program} {main : Bool} {own : Nat → Prop} {R : World → World → Prop} {D : World → World → Array Event → Prop} {Stop : Goroutine → World → Prop}
theorem Goo.stop {n : Nat} {g : Goroutine} {w : World} (h : ∀ w₁, R w w₁ → Stop g w₁) : Goo P main own R D Stop n g w := by
 cases n with
 | zero => exact h
 | succ n => exact .inl h
theorem Goo.step {n : Nat} {g : Goroutine} {w : World} (hs : g.status = .running)
   (h : ∀ w₁, R w w₁ → (stepG P main g w₁).goes fun g' w' es => D w₁ w' es ∧ (New own w₁ w' → Goo P main own R D Stop n g' w')) : Goo P main own R D Stop (n + 1) g w := .inr ⟨hs, h⟩
theorem Goo.rely (trans : ∀ a b c, R a b → R b c → R a c) {n : Nat} {g : Goroutine} {w w₁ : World} (h : Goo P main own R D Stop n g w) (hr : R w w₁) : Goo P main own R D Stop n g w₁ := by
 cases n with
 | zero => exact fun w₂ h₂ => h w₂ (trans _ _ _ hr h₂)
 | succ n =>
   rcases h with h | ⟨hs, h⟩
   · exact .inl fun w₂ h₂ => h w₂ (trans _ _ _ hr h₂)
   · exact .inr ⟨hs, fun w₂ h₂ => h w₂ (trans _ _ _ hr h₂)⟩
theorem goes_mono {s : GStep} {K K' : Goroutine → World → Array Event → Prop} (h : s.goes K) (hK : ∀ g w es, K g w es → K' g w es) : s.goes K' := by
 cases s <;> first | exact hK _ _ _ h | exact h
theorem Goo.more {n : Nat} {g : Goroutine} {w : World} (h : Goo P main own R D Stop n g w) : Goo P main own R D Stop (n + 1) g w := by
 induction n generalizing g w with
 | zero => exact .inl h
 | succ n ih =>
   rcases h with h | ⟨hs, h⟩
   · exact .inl h
   · exact .inr ⟨hs, fun w₁ h₁ => goes_mono (h w₁ h₁) fun _ _ _ x => ⟨x.1, fun hn => ih (x.2 hn)⟩⟩
theorem Goo.mono {n n' : Nat} {g : Goroutine} {w : World} (h : Goo P main own R D Stop n g w) (hn : n ≤ n') : Goo P main own R D Stop n' g w := by
 induction hn with
 | refl => exact h
 | step _ ih => exact ih.more
theorem Goo.imp {Stop' : Goroutine → World → Prop} (hS : ∀ g w, Stop g w → Stop' g w) {n : Nat} {g : Goroutine} {w : World} (h : Goo P main own R D Stop n g w) : Goo P main own R D Stop' n g w := by
 induction n generalizing g w with
 | zero => exact fun w₁ h₁ => hS _ _ (h w₁ h₁)
 | succ n ih =>
   rcases h with h | ⟨hs, h⟩
   · exact .inl fun w₁ h₁ => hS _ _ (h w₁ h₁)
   · exact .inr ⟨hs, fun w₁ h₁ => goes_mono (h w₁ h₁) fun _ _ _ x => ⟨x.1, fun hn => ih (x.2 hn)⟩⟩
theorem Goo.of_goes {n : Nat} {g : Goroutine} {w : World} (h : Goes P main R D Stop n g w) : Goo P main own R D Stop n g w := by
 induction n generalizing g w with
 | zero => exact h
 | succ n ih =>
   rcases h with h | ⟨hs, h⟩
   · exact .inl h
   · exact .inr ⟨hs, fun w₁ h₁ => goes_mono (h w₁ h₁) fun _ _ _ x => ⟨x.1, fun _ => ih x.2⟩⟩
theorem Goo.bind (refl : ∀ a, R a a) {Stop' : Goroutine → World → Prop} {m : Nat} (hS : ∀ g w, Stop g w → Goo P main own R D Stop' m g w) {n : Nat} {g : Goroutine} {w : World}
   (h : Goo P main own R D Stop n g w) : Goo P main own R D Stop' (m + n) g w := by
 have key : ∀ (g : Goroutine) (w : World), (∀ w₁, R w w₁ → Stop g w₁) → Goo P main own R D Stop' m g w := by
   intro g w h
   exact hS g w (h w (refl w))
 induction n generalizing g w with
 | zero => exact key g w h
 | succ n ih =>
   rcases h with h | ⟨hs, h⟩
   · exact (key g w h).mono (by omega)
   · exact .inr ⟨hs, fun w₁ h₁ => goes_mono (h w₁ h₁) fun _ _ _ x => ⟨x.1, fun hn => ih (x.2 hn)⟩⟩
theorem Goo.running (refl : ∀ a, R a a) (hS : ∀ g w, Stop g w → g.status = .running) {n : Nat} {g : Goroutine} {w : World} (h : Goo P main own R D Stop n g w) : g.status = .running := by
 cases n with
 | zero => exact hS g w (h w (refl w))
 | succ n => exact h.elim (fun x => hS g w (x w (refl w))) (·.1)
theorem Goo.now (refl : ∀ a, R a a) {n : Nat} {g : Goroutine} {w : World} (h : Goo P main own R D Stop n g w) :
   Stop g w ∨ ∃ m, n = m + 1 ∧ (stepG P main g w).goes fun g' w' es => D w w' es ∧ (New own w w' → Goo P main own R D Stop m g' w') := by
 cases n with
 | zero => exact .inl (h w (refl w))
 | succ n => exact h.elim (fun x => .inl (x w (refl w))) (fun x => .inr ⟨n, rfl, x.2 w (refl w)⟩)
end
/-! ### A region that draws its order: the order is a list that the tape gives; a step at its head -/
section
variable {P : Program} {main : Bool} {own : Nat → Prop} {R : World → World → Prop} {D : World → World → Array Event → Prop} {Stop : Goroutine → World → Prop}
def lin (ops : Array Oper) (fuel t : Nat) (listed : Array Bool) : List Nat := Region.linearise.go .any ops fuel t listed []
theorem lin_zero (ops : Array Oper) (t : Nat) (listed : Array Bool) : lin ops 0 t listed = [] := by simp [lin, Region.linearise.go]
theorem lin_succ {ops : Array Oper} {fuel : Nat} {listed : Array Bool} {rs : List Nat} (hr : Region.ready .any ops listed = rs) (hne : rs ≠ []) (t : Nat) : ∃ i ∈ rs, ∃ t', lin ops (fuel + 1) t listed = i :: lin ops fuel t' (listed.setIfInBounds i true) := by
 subst hr
 generalize hrs : Region.ready .any ops listed = rs at hne
 have hlen : 0 < rs.length := List.length_pos_iff.2 hne
 have hlt : t % rs.length < rs.length := Nat.mod_lt _ hlen
 refine ⟨rs[t % rs.length], List.getElem_mem _, t / rs.length, ?_⟩
 unfold lin
 simp only [Region.linearise.go]
 change (match (Region.ready .any ops listed)[t % (Region.ready .any ops listed).length]? with
     | some i => Region.linearise.go .any ops fuel (t / (Region.ready .any ops listed).length) (listed.setIfInBounds i true) [i]
     | none => [].reverse) = _
 rw [hrs, List.getElem?_eq_getElem hlt]
 simp only []
 rw [linearise_go_acc]
 simp
theorem goo_lin {b : Frame} {a : Act} {k : List Item} {cs : List Frame} {w : World} {ops : Array Oper} {fuel : Nat} {listed : Array Bool} {n : Nat} {rs : List Nat} (hr : Region.ready .any ops listed = rs) (hne : rs ≠ [])
   (h : ∀ i ∈ rs, ∀ t, Goo P main own R D Stop n (G (b.at a (.inRegion ops (i :: lin ops fuel t (listed.setIfInBounds i true)) :: k)) cs) w) (t : Nat) :
   Goo P main own R D Stop n (G (b.at a (.inRegion ops (lin ops (fuel + 1) t listed) :: k)) cs) w := by
 obtain ⟨i, hi, t', e⟩ := lin_succ (fuel := fuel) hr hne t
 rw [e]
 exact h i hi t'
theorem goo_draw (hm : P.follows .mixedOrders = true) (hd : LetsDraw D) {b : Frame} {a : Act} {k : List Item} {cs : List Frame} {w : World} {id : Nat} {ops : Array Oper} {n : Nat}
   (h : ∀ w₁, R w w₁ → ∀ t, Goo P main own R D Stop n (G (b.at a (.inRegion ops (lin ops ops.size t (Array.replicate ops.size false)) :: k)) cs) { w₁ with drawn := w₁.drawn + 1 }) :
   Goo P main own R D Stop (n + 1) (G (b.at a (.code (.region id ops true) :: k)) cs) w :=
 Goo.step rfl fun w₁ h₁ => by
   rw [stepG_region_draw]
   refine ⟨hd _, fun _ => ?_⟩
   have := h w₁ h₁ (w₁.tape w₁.drawn (.order b.fn id))
   simp only [Region.schedule, hm, Bool.true_or, if_true]
   exact this
end
end Go.Proofs.Ytblpmdolclalnaa
namespace Go.Proofs.Ytblpmdolclalnaa
open Go.Conc
open Go.ConcR (WgAt)
open Go.ConcN (WgLive)
abbrev Cells := Nat → Nat → Prop
structure Rel (ty : TypeId) (Wg : Nat) (Keep : Cells) (w w₁ : World) : Prop where
 size : w.heap.size ≤ w₁.heap.size
 blk : ∀ b, b < w.heap.size → (∀ o, Keep b o) → w₁.heap[b]? = w.heap[b]?
 cell : ∀ b o, b < w.heap.size → Keep b o → w₁.cell? ⟨b, o, none⟩ = w.cell? ⟨b, o, none⟩
 form : ∀ (b : Nat) (c : Array Value) (e : TypeId) (f : Nat × Nat), w.heap[b]? = some (Obj.cells c e f) → ∃ c' : Array Value, w₁.heap[b]? = some (Obj.cells c' e f) ∧ c'.size = c.size
 live : WgLive ty Wg w → WgLive ty Wg w₁
 os : w₁.os = w.os
 out : w₁.output = w.output
 tape : w₁.tape = w.tape
def CS (w : World) (b : Nat) : Prop := ∃ cap buf cl s r tm, w.heap[b]? = some (Obj.chan cap buf cl s r tm)
def Nc (w : World) (b : Nat) : Prop := ¬ CS w b
theorem Nc.lt {w : World} {b : Nat} (h : ¬ Nc w b) : b < w.heap.size := by
 obtain ⟨_, _, _, _, _, _, h⟩ := Classical.not_not.1 h
 exact (Array.getElem?_eq_some_iff.1 h).1
theorem CS.eq {w w' : World} {b : Nat} (h : w'.heap[b]? = w.heap[b]?) : CS w' b ↔ CS w b := by unfold CS; rw [h]
def SameCh (w w' : World) : Prop := ∀ b, b < w.heap.size → (Nc w' b ↔ Nc w b)
theorem SameCh.refl (w : World) : SameCh w w := fun _ _ => Iff.rfl
theorem SameCh.put {w : World} {b₀ : Nat} {x ob : Obj} (hb : w.heap[b₀]? = some x) (h : (∃ cap buf cl s r tm, ob = Obj.chan cap buf cl s r tm) ↔ ∃ cap buf cl s r tm, x = Obj.chan cap buf cl s r tm) : SameCh w { w with heap := w.heap.setIfInBounds b₀ ob } := fun b _ => not_congr (by
 by_cases e : b = b₀
 · subst e
   have hlt := (Array.getElem?_eq_some_iff.1 hb).1
   unfold CS
   rw [hb]
   simp only [Array.getElem?_setIfInBounds_self_of_lt hlt, Option.some.injEq]
   exact h
 · exact CS.eq (Array.getElem?_setIfInBounds_ne (Ne.symm e)))
def EvOK (said : Bool) (Wg : Nat) (Writ Read : Cells) (n n' : Nat) (NC : Nat → Prop) (e : Event) : Prop :=
 (∃ (a : Addr) (wr sy : Bool), e = ⟨.cell a, wr, sy⟩ ∧ (sy = true → a.block ≠ Wg) ∧ a.block < n' ∧ (n ≤ a.block ∨ Writ a.block a.off ∨ (wr = false ∧ Read a.block a.off))) ∨
 (said = true ∧ ∃ (a : Addr) (s1 s2 : Bool), a.block = Wg ∧ (e = ⟨.mark (.read a), s1, s2⟩ ∨ e = ⟨.mark (.write a), s1, s2⟩)) ∨
 (said = true ∧ ∃ (b : Nat) (wr : Bool), e = ⟨.obj b, wr, false⟩ ∧ NC b ∧ b < n') ∨ e = ⟨.mark .noRoom, false, true⟩
structure Gua (said : Bool) (Wg : Nat) (Writ Read : Cells) (w w' : World) (es : Array Event) : Prop where
 size : w.heap.size ≤ w'.heap.size
 blk : ∀ b, b < w.heap.size → (∀ o, ¬ Writ b o) → w'.heap[b]? = w.heap[b]?
 cell : ∀ b o, b < w.heap.size → ¬ Writ b o → w'.cell? ⟨b, o, none⟩ = w.cell? ⟨b, o, none⟩
 form : ∀ (b : Nat) (c : Array Value) (e : TypeId) (f : Nat × Nat), w.heap[b]? = some (Obj.cells c e f) → ∃ c' : Array Value, w'.heap[b]? = some (Obj.cells c' e f) ∧ c'.size = c.size
 os : w'.os = w.os
 out : w'.output = w.output
 tape : w'.tape = w.tape
 kind : SameCh w w'
 evs : ∀ e ∈ es, EvOK said Wg Writ Read w.heap.size w'.heap.size (Nc w') e
section
variable {ty : TypeId} {Wg : Nat} {Keep : Cells} {w w₁ w₂ : World}
theorem Rel.refl (w : World) : Rel ty Wg Keep w w := ⟨Nat.le_refl _, fun _ _ _ => rfl, fun _ _ _ _ => rfl, fun _ c _ _ h => ⟨c, h, rfl⟩, id, rfl, rfl, rfl⟩
theorem Rel.trans (h : Rel ty Wg Keep w w₁) (h' : Rel ty Wg Keep w₁ w₂) : Rel ty Wg Keep w w₂ :=
 ⟨Nat.le_trans h.size h'.size, fun b hb k => (h'.blk b (Nat.lt_of_lt_of_le hb h.size) k).trans (h.blk b hb k), fun b o hb k => (h'.cell b o (Nat.lt_of_lt_of_le hb h.size) k).trans (h.cell b o hb k),
   fun b c e f hc => by
     obtain ⟨c', h1, h2⟩ := h.form b c e f hc
     obtain ⟨c'', h3, h4⟩ := h'.form b c' e f h1
     exact ⟨c'', h3, h4.trans h2⟩,
   h'.live ∘ h.live, h'.os.trans h.os, h'.out.trans h.out, h'.tape.trans h.tape⟩
theorem Rel.tr : ∀ a b c, Rel ty Wg Keep a b → Rel ty Wg Keep b c → Rel ty Wg Keep a c := fun _ _ _ h k => h.trans k
theorem Rel.at (w : World) (d : Nat) : Rel ty Wg Keep w (w.at d) := ⟨Nat.le_refl _, fun _ _ _ => rfl, fun _ _ _ _ => rfl, fun _ c _ _ h => ⟨c, h, rfl⟩, id, rfl, rfl, rfl⟩
theorem Rel.less {Keep' : Cells} (h : Rel ty Wg Keep w w₁) (hk : ∀ b o, b < w.heap.size → Keep' b o → Keep b o) : Rel ty Wg Keep' w w₁ :=
 ⟨h.size, fun b hb k => h.blk b hb fun o => hk b o hb (k o), fun b o hb k => h.cell b o hb (hk b o hb k), h.form, h.live, h.os, h.out, h.tape⟩
theorem cell?_eq {w w₁ : World} {b : Nat} (e : w₁.heap[b]? = w.heap[b]?) (o : Nat) : w₁.cell? ⟨b, o, none⟩ = w.cell? ⟨b, o, none⟩ := by simp [World.cell?, e]
theorem Gua.rel {said : Bool} {Writ Read : Cells} {es : Array Event} (h : Gua said Wg Writ Read w w₁ es) (hK : ∀ b o, b < w.heap.size → Keep b o → ¬ Writ b o) (hW : Wg < w.heap.size) (hWg : ∀ o, ¬ Writ Wg o) : Rel ty Wg Keep w w₁ :=
 ⟨h.size, fun b hb k => h.blk b hb fun o => hK b o hb (k o), fun b o hb k => h.cell b o hb (hK b o hb k), h.form, fun ⟨st, sm, hl⟩ => ⟨st, sm, hl.of_block (h.blk Wg hW hWg)⟩, h.os, h.out, h.tape⟩
theorem Gua.idle {said : Bool} {Writ Read : Cells} (w : World) : Gua said Wg Writ Read w w #[] := ⟨Nat.le_refl _, fun _ _ _ => rfl, fun _ _ _ _ => rfl, fun _ c _ _ h => ⟨c, h, rfl⟩, rfl, rfl, rfl, fun _ _ => Iff.rfl, fun e he => by simp at he⟩
theorem Gua.draw {said : Bool} {Writ Read : Cells} : LetsDraw (Gua said Wg Writ Read) := fun _ => ⟨Nat.le_refl _, fun _ _ _ => rfl, fun _ _ _ _ => rfl, fun _ c _ _ h => ⟨c, h, rfl⟩, rfl, rfl, rfl, fun _ _ => Iff.rfl, fun e he => by simp at he⟩
theorem Rel.turn {b₀ : Nat} {ob : Obj} (hb : ∃ x, w.heap[b₀]? = some x ∧ ∀ c e f, x = Obj.cells c e f → ∃ c' : Array Value, ob = Obj.cells c' e f ∧ c'.size = c.size) (hK : ∀ o, ¬ Keep b₀ o)
   (hl : WgLive ty Wg w → WgLive ty Wg { w with heap := w.heap.setIfInBounds b₀ ob }) : Rel ty Wg Keep w { w with heap := w.heap.setIfInBounds b₀ ob } := by
 obtain ⟨x, hx, hf⟩ := hb
 have hlt : b₀ < w.heap.size := (Array.getElem?_eq_some_iff.1 hx).1
 have ne : ∀ b, b ≠ b₀ → (w.heap.setIfInBounds b₀ ob)[b]? = w.heap[b]? := fun b hb => Array.getElem?_setIfInBounds_ne (Ne.symm hb)
 refine ⟨by simp, fun b hb k => ne b fun e => hK 0 (e ▸ k 0), fun b o hb k => cell?_eq (ne b fun e => hK o (e ▸ k)) o, fun b c e f h => ?_, hl, rfl, rfl, rfl⟩
 by_cases hbb : b = b₀
 · subst hbb
   rw [hx] at h
   obtain ⟨c', rfl, hs⟩ := hf c e f (Option.some.inj h)
   exact ⟨c', by simp [hlt], hs⟩
 · exact ⟨c, (ne b hbb).trans h, rfl⟩
end
/-! ### the trace -/
theorem touchAt_app {t u : Trace} {i : Nat} {a : Touch} (h : touchAt (t ++ u) i = some a) : (i < t.size ∧ touchAt t i = some a) ∨ (t.size ≤ i ∧ ∃ op ∈ u, (t ++ u)[i]? = some op ∧ op.act.touch? = some a) := by
 obtain ⟨op, hop, hoa⟩ := touch_of h
 rcases getElem?_append_cases hop with ⟨hi, hop'⟩ | ⟨hi, hopu⟩
 · exact .inl ⟨hi, by rw [touchAt_of hop']; exact hoa⟩
 · exact .inr ⟨hi, op, hopu, hop, hoa⟩
structure Past (Shun : Nat → Prop) (t : Trace) (n : Nat) : Prop where
 clean : ∀ said, ¬ Race said t
 known : ∀ i a, touchAt t i = some a → a.loc.isMemory = true → Knows t 0 i ∨ ((∃ ad : Addr, a.loc = .cell ad ∧ Shun ad.block) ∧ a.kind = .atomic)
 over : t.HandedOver
 hears : Deaf t 0 = 0
 seen : ∀ i a ad, touchAt t i = some a → a.loc = .cell ad → ad.block < n
 seenO : ∀ i a c, touchAt t i = some a → a.loc = .obj c → c < n
structure KG where
 Got : Cells
 Rd : Nat → Prop
def Sh (Wg : Nat) (NC : Nat → Prop) (l : Loc) : Prop := (∃ a : Addr, l = .cell a ∧ a.block = Wg) ∨ ∃ c, l = .obj c ∧ ¬ NC c
structure Gh (Wg : Nat) (Shun : Nat → Prop) (o : Nat → Nat) (n : Nat) (Given : Cells) (Fz : Nat → Prop) (Ch : Nat → Prop) (j : Nat) (D : Nat → KG) : Prop where
 wg : Wg < n ∧ o Wg = 0 ∧ (∀ x, Given Wg x) ∧ ¬ Fz Wg ∧ ¬ Shun Wg
 shun : ∀ b, Shun b → b < n ∧ o b = 0 ∧ ∀ x, Given b x
 fz : ∀ b, Fz b → b < n ∧ o b = 0 ∧ ∀ x, ¬ Given b x
 ch : ∀ c, Ch c → c < n ∧ o c = 0 ∧ c ≠ Wg ∧ ∀ x, Given c x
 given : ∀ b x, Given b x → b < n ∧ o b = 0
 got : ∀ i, i < j → ∀ b x, (D i).Got b x → Given b x ∧ ¬ Shun b ∧ b ≠ Wg ∧ ¬ Ch b
 rd : ∀ i, i < j → ∀ b, (D i).Rd b → Fz b
 apart : ∀ i i', i < j → i' < j → i ≠ i' → ∀ b x, (D i).Got b x → ¬ (D i').Got b x
 mine : ∀ b, b < n → o b ≤ j
structure Tr (Wg : Nat) (Shun : Nat → Prop) (o : Nat → Nat) (n : Nat) (Given : Cells) (Fz : Nat → Prop) (base j : Nat) (D : Nat → KG) (T0 : Nat) (NC : Nat → Prop) (t : Trace) : Prop where
 clean : ∀ said, ¬ Race said t
 seen : ∀ i a ad, touchAt t i = some a → a.loc = .cell ad → ad.block < n
 seenO : ∀ i a c, touchAt t i = some a → a.loc = .obj c → c < n
 main : ∀ a : Addr, a.block < n → o a.block = 0 → ¬ Given a.block a.off → Go.ConcN.PermW t 0 (.cell a) ∧ (¬ Fz a.block → Perm t 0 (.cell a))
 kid : ∀ i, i < j → ∀ a : Addr, a.block < n → (o a.block = i + 1 ∨ (D i).Got a.block a.off → Perm t (base + i) (.cell a)) ∧ ((D i).Rd a.block → Go.ConcN.PermW t (base + i) (.cell a))
 sh : ∀ i a, touchAt t i = some a → Sh Wg NC a.loc → (a.kind = .plain → ∀ g, (g = 0 ∨ ∃ k, k < j ∧ g = base + k) → Knows t g i) ∧ (a.kind = .said → Knows t 0 i)
 ob : ∀ i a c, touchAt t i = some a → a.loc = .obj c → NC c → Knows t 0 i
 acc : ∀ i a, touchAt t i = some a → a.loc.isMemory = true → Knows t 0 i ∨ ((∃ ad : Addr, a.loc = .cell ad ∧ (Shun ad.block ∨ ad.block = Wg)) ∧ a.kind = .atomic) ∨ ∃ k, k < j ∧ t.g? i = some (base + k)
 over : ∀ i g, t.g? i = some g → g ≠ 0 → t.counts i → (∃ q, t.g? q = some 0 ∧ HappensBefore t i q) ∨ ∃ k, k < j ∧ g = base + k
 norel : ∀ k a, T0 ≤ k → t.act? k ≠ some (.mark (.release a))
end Go.Proofs.Ytblpmdolclalnaa
namespace Go.Proofs.Ytblpmdolclalnaa
open Go.Conc
section
variable {P : Program} {said : Bool} {Wg : Nat} {Writ Read : Cells} {w w' : World} {es : Array Event}
theorem gua_read (h : ∀ e ∈ es, ∃ a : Addr, e = ⟨.cell a, false, false⟩ ∧ a.block < w.heap.size ∧ (Writ a.block a.off ∨ Read a.block a.off)) : Gua said Wg Writ Read w w es :=
 ⟨Nat.le_refl _, fun _ _ _ => rfl, fun _ _ _ _ => rfl, fun _ c _ _ h => ⟨c, h, rfl⟩, rfl, rfl, rfl, fun _ _ => Iff.rfl, fun e he => by
   obtain ⟨a, rfl, h1, h2⟩ := h e he
   exact .inl ⟨a, false, false, rfl, fun x => (by cases x), h1, .inr (h2.imp id fun x => ⟨rfl, x⟩)⟩⟩
theorem gua_but {S : Nat → Prop} (hS : ∀ b, S b → b < w.heap.size → ∀ o, Writ b o) (hsz : w.heap.size ≤ w'.heap.size) (hold : ∀ b, b < w.heap.size → ¬ S b → w'.heap[b]? = w.heap[b]?)
   (hf : ∀ b, b < w.heap.size → S b → ∃ (c c' : Array Value) (e : TypeId) (f : Nat × Nat), w.heap[b]? = some (Obj.cells c e f) ∧ w'.heap[b]? = some (Obj.cells c' e f) ∧ c'.size = c.size)
   (hos : w'.os = w.os) (hout : w'.output = w.output) (ht : w'.tape = w.tape) (he : ∀ e ∈ es, EvOK said Wg Writ Read w.heap.size w'.heap.size (Nc w') e) : Gua said Wg Writ Read w w' es := by
 have same : ∀ b, b < w.heap.size → ∀ o, ¬ Writ b o → w'.heap[b]? = w.heap[b]? := fun b hb o hw => hold b hb fun hs => hw (hS b hs hb o)
 refine ⟨hsz, fun b hb hw => same b hb 0 (hw 0), fun b o hb hw => cell?_eq (same b hb o hw) o, fun b c e f h => ?_, hos, hout, ht, fun b hb => not_congr ?_, he⟩
 · have hb := (Array.getElem?_eq_some_iff.1 h).1
   by_cases hs : S b
   · obtain ⟨c0, c', e0, f0, h1, h2, h3⟩ := hf b hb hs
     rw [h1] at h
     cases h
     exact ⟨c', h2, h3⟩
   · exact ⟨c, (hold b hb hs).trans h, rfl⟩
 · by_cases hs : S b
   · obtain ⟨c0, c', e0, f0, h1, h2, _⟩ := hf b hb hs
     unfold CS
     rw [h1, h2]
     simp
   · exact CS.eq (hold b hb hs)
theorem gua_write {a : Addr} {v : Value} {c : Array Value} {e : TypeId} {f : Nat × Nat} (ha : a.spot = none) (hc : w.heap[a.block]? = some (.cells c e f)) (hw : Writ a.block a.off) (h : ∀ e ∈ es, e = ⟨.cell a, true, false⟩) :
   Gua said Wg Writ Read w (w.setCell a v) es := by
 have hlt := (Array.getElem?_eq_some_iff.1 hc).1
 have ne : ∀ b, b ≠ a.block → (w.setCell a v).heap[b]? = w.heap[b]? := fun b hb => by
   unfold World.setCell
   simp only [Array.getElem?_modify]
   rw [if_neg (fun e => hb e.symm)]
 have at' : (w.setCell a v).heap[a.block]? = some (.cells (c.setIfInBounds a.off v) e f) := by
   unfold World.setCell
   simp [Array.getElem?_modify, hc, ha]
 refine ⟨by simp [World.setCell], fun b hb hn => ne b fun e => hn a.off (e ▸ hw), fun b o hb hn => ?_, fun b c' e' f' h' => ?_, rfl, rfl, rfl, fun b hb => not_congr ?_, fun ev hev => ?_⟩
 · by_cases hbb : b = a.block
   · subst hbb
     have ho : o ≠ a.off := fun e => hn (e ▸ hw)
     simp [World.cell?, at', hc, Array.getElem?_setIfInBounds_ne (Ne.symm ho)]
   · exact cell?_eq (ne b hbb) o
 · by_cases hbb : b = a.block
   · subst hbb
     rw [hc] at h'
     cases h'
     exact ⟨_, at', by simp⟩
   · exact ⟨c', (ne b hbb).trans h', rfl⟩
 · by_cases hbb : b = a.block
   · subst hbb
     unfold CS
     rw [hc, at']
     simp
   · exact CS.eq (ne b hbb)
 · have := h ev hev
   subst this
   exact .inl ⟨a, true, false, rfl, fun x => (by cases x), by simpa [World.setCell] using hlt, .inr (.inl hw)⟩
structure OneT (P : Program) (t e : TypeId) : Prop where
 und : P.underlying t = some (.slice e)
 inf : ∃ i z, P.info? e = some i ∧ i.zero = some z ∧ i.size = 1 ∧ z.cells.size = 1 ∧ i.bytes ≤ 64
theorem append1 {t e ty : TypeId} (T : OneT P t e) {v : Value} {n : Nat} {xs : List Value} (hown : w.ownsRow 0 e 1 v n xs) {bx cx : Nat} {u : Value} (hu : w.cell? ⟨bx, 0, none⟩ = some u) (h1 : u.oneCell' = true) (hn : n + 1 ≤ 1000000)
   (hW : ∀ g, v.ownBlock = some g → g ≠ Wg ∧ ∀ o, Writ g o) (hR : bx ≠ Wg ∧ ∀ o, Writ bx o ∨ Read bx o) :
   ∃ v' w', (Builtin.append_ #[t, t] ty #[v, .slice (some ⟨bx, 0, none⟩) 1 cx]).run P w = .ok v' w' ∧ w'.ownsRow 0 e 1 v' (n + 1) (xs ++ [u]) ∧ w.grownBy w' v.ownBlock ∧ (∀ g, v'.ownBlock = some g → v.ownBlock = some g ∨ (w.heap.size ≤ g ∧ g < w'.heap.size)) ∧
     ∀ fn, Gua said Wg Writ Read w w' (seen P fn ((Builtin.append_ #[t, t] ty #[v, .slice (some ⟨bx, 0, none⟩) 1 cx]).events P w #[])) := by
 obtain ⟨i, z, hi, hz, hs, hzs, hby⟩ := T.inf
 have hnews : ∀ j y, [u][j]? = some y → w.cell? ((⟨bx, 0, none⟩ : Addr).add j) = some y := fun j y hj => by
   rcases j with _ | j
   · simp at hj; subst hj; exact hu
   · simp at hj
 have hbx : bx < w.heap.size := by
   unfold World.cell? at hu
   cases hh : w.heap[bx]? with
   | none => simp [hh] at hu
   | some x => exact (Array.getElem?_eq_some_iff.1 hh).1
 have h63 : n + 1 ≤ maxLen := by simp only [maxLen]; omega
 have hbytes : (n + 1) * i.bytes ≤ 140737488355328 := Nat.le_trans (Nat.mul_le_mul hn hby) (by omega)
 have hev := events_append_where (P := P) w 0 t ty e i z 1 i.bytes T.und hi hz hs rfl v n xs hown ⟨bx, 0, none⟩ 1 cx [u] (by simp) hnews (by simpa using h1) h63 hbytes
 have evs : ∀ (W : World), w.heap.size ≤ W.heap.size → ∀ fn, ∀ ev ∈ seen P fn ((Builtin.append_ #[t, t] ty #[v, .slice (some ⟨bx, 0, none⟩) 1 cx]).events P w #[]), EvOK said Wg Writ Read w.heap.size W.heap.size (Nc W) ev := fun W hW' fn ev hm => by
   rcases hev ev (mem_seen hm) with ⟨ad, hl, h⟩ | ⟨m, rfl, hmm⟩
   · obtain ⟨loc, wr, sy⟩ := ev
     simp only at hl h
     subst hl
     rcases h with ⟨rfl, hb⟩ | hb
     · refine .inl ⟨ad, false, sy, rfl, fun _ => by rw [hb]; exact hR.1, by rw [hb]; exact Nat.lt_of_lt_of_le hbx hW', .inr ?_⟩
       rw [hb]
       exact (hR.2 ad.off).imp id fun x => ⟨rfl, x⟩
     · have hg := hW ad.block hb.symm
       exact .inl ⟨ad, wr, sy, rfl, fun _ => hg.1, Nat.lt_of_lt_of_le (hown.lt _ hb.symm).2 hW', .inr (.inl (hg.2 _))⟩
   · rw [show m = .noRoom from hmm]
     exact .inr (.inr (.inr rfl))
 rcases hown.2 with ⟨hv, hn0⟩ | ⟨g, cap, cur, hv, _, hg, hnc, hcm, hcs, htake⟩
 · -- nothing there yet
   subst hv hn0
   have hx : xs = [] := List.length_eq_zero_iff.1 (by simpa using hown.1)
   subst hx
   obtain ⟨v', w', hr, ho, hgr, _⟩ := run_append_own (P := P) w w.heap.size t ty e i z 1 i.bytes T.und hi hz hs rfl hzs (by omega) (.slice none 0 0) 0 [] ⟨by simp, .inl ⟨rfl, rfl⟩⟩ ⟨bx, 0, none⟩ 1 cx [u] (by simp) hnews (by simpa using h1) h63 hbytes (Nat.le_refl _)
   refine ⟨v', w', hr, ⟨ho.1, ho.2.imp id fun ⟨g, cap, cur, a1, a2, a3⟩ => ⟨g, cap, cur, a1, Nat.zero_le _, a3⟩⟩, hgr, fun g hg => .inr (ho.lt g hg), fun fn => gua_but (S := fun _ => False) (fun _ h => h.elim) hgr.size (fun b hb _ => hgr.block b hb (by simp [Value.ownBlock])) (fun _ _ h => h.elim) hgr.os hgr.output hgr.tape (evs w' hgr.size fn)⟩
 · subst hv
   have hlt := (Array.getElem?_eq_some_iff.1 hg).1
   have hWg := hW g rfl
   by_cases hroom : n + 1 ≤ cap
   · have hr := run_append_room (P := P) w t ty e i T.und hi g n cap cur hg ⟨bx, 0, none⟩ 1 cx [u] (by simp [hs]) hnews (by simpa using h1) hroom (by simp [hs, hcs]; omega)
     simp only [hs, Nat.mul_one, List.length_singleton] at hr hcs htake
     have hset : ∀ r : Array Value, r.size = cur.size → (w.setRow g r).heap[g]? = some (.cells r e (0, 0)) ∧ (∀ b, b ≠ g → (w.setRow g r).heap[b]? = w.heap[b]?) ∧ (w.setRow g r).heap.size = w.heap.size := fun r _ => by
       refine ⟨by rw [setRow_heap w g _ _ _ _ hg], fun b hb => ?_, ?_⟩
       · unfold World.setRow; simp [Array.getElem?_modify, Ne.symm hb]
       · unfold World.setRow; simp
     have hrs : (cur.toList.take n ++ [u] ++ cur.toList.drop (n + 1)).toArray.size = cur.size := by simp [hcs]; omega
     obtain ⟨e1, e2, e3⟩ := hset _ hrs
     refine ⟨_, _, hr, ⟨by simp [hown.1], .inr ⟨g, cap, _, rfl, Nat.zero_le _, e1, hroom, hcm, by rw [hrs, hcs]; omega, ?_⟩⟩, ⟨rfl, rfl, rfl, by omega, fun k hk hne => e2 k (by simpa [Value.ownBlock] using hne)⟩, fun g' hg' => .inl hg', fun fn => ?_⟩
     · have hl : (cur.toList.take n).length = n := by rw [List.length_take]; simp [hcs]; omega
       rw [← htake]
       simp only [Nat.mul_one]
       rw [List.take_append_of_le_length (by simp [hl]), List.take_of_length_le (by simp [hl])]
     · exact gua_but (S := (· = g)) (fun b hb _ => hb ▸ hWg.2) (by omega) (fun b _ hb => e2 b hb) (fun b _ hb => by subst hb; exact ⟨_, _, _, _, hg, e1, hrs⟩) rfl rfl rfl (evs _ (by omega) fn)
   · obtain ⟨v', w', hr, ho, hgr⟩ := run_append_arg_grows (P := P) w t ty e i z 1 i.bytes T.und hi hz hs rfl hzs (by omega) ⟨g, 0, none⟩ n cap xs hown.1 (hown.cells rfl) ⟨bx, 0, none⟩ 1 cx [u] (by simp) hnews (by omega) h63 hbytes
     exact ⟨v', w', hr, ⟨ho.1, ho.2.imp id fun ⟨g, cap, cur, a1, a2, a3⟩ => ⟨g, cap, cur, a1, Nat.zero_le _, a3⟩⟩, ⟨hgr.os, hgr.tape, hgr.output, hgr.size, fun k hk _ => hgr.block k hk (by simp)⟩, fun g' hg' => .inr (ho.lt g' hg'), fun fn => gua_but (S := fun _ => False) (fun _ h => h.elim) hgr.size (fun b hb _ => hgr.block b hb (by simp)) (fun _ _ h => h.elim) hgr.os hgr.output hgr.tape (evs w' hgr.size fn)⟩
end
end Go.Proofs.Ytblpmdolclalnaa
