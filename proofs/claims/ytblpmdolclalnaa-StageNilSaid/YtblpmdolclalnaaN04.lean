/- Where each goroutine of the net stands, and the invariant of the machine: definitions, and that a situation stands whatever the others do. The invariant of the machine while a net is at work, its measure, and what a step of a child or of goroutine 0 that is its own does to it. Steps of the machine while a net is at work: what a child, goroutine 0, an old goroutine does by .. -/
import Derived.Test.YtblpmdolclalnaaN02
set_option maxHeartbeats 16000000
set_option linter.unusedSimpArgs false
set_option linter.unusedVariables false
namespace Go.Proofs.Ytblpmdolclalnaa
open Go.Conc
open Go.ConcR (WgAt KK stA smA rd wr mk DC0)
open Go.ConcN (WgLive sumTo upd upd_same upd_ne)
def ownK (o : Nat → Nat) (i : Nat) : Nat → Prop := fun b => o b = i + 1
def own0 (o : Nat → Nat) : Nat → Prop := fun b => o b = 0
def Agr (n : Nat) (o o' : Nat → Nat) : Prop := ∀ b, b < n → o' b = o b
section
variable (P : Program) (ty : TypeId) (Wg : Nat) (N : Net)
inductive KSit (o : Nat → Nat) (i : Nat) (s : N.S) (kg : KG) : Nat → Nat → Nat → Goroutine → World → Prop
 | run {m : Nat} {g : Goroutine} {w : World} : (∀ o', Agr w.heap.size o o' → Goo P false (ownK o' i) (KR ty Wg (ownK o' i) kg.Got kg.Rd) (KD Wg (ownK o' i) kg.Got kg.Rd) (N.Kid (ownK o' i) s kg.Got kg.Rd) m g w) → KSit o i s kg 8 (m + 2) 0 g w
 | wok {g : Goroutine} {w : World} : (∀ o', Agr w.heap.size o o' → ∀ w₁, KR ty Wg (ownK o' i) kg.Got kg.Rd w w₁ → KStop P ty Wg N (ownK o' i) s kg.Got kg.Rd g w₁) → KSit o i s kg 8 1 0 g w
 | pkR {g : Goroutine} {w : World} {c : Nat} : N.act s = .recv c → (∀ o', Agr w.heap.size o o' → ∀ w₁, KR ty Wg (ownK o' i) kg.Got kg.Rd w w₁ → KStop P ty Wg N (ownK o' i) s kg.Got kg.Rd g w₁) →
     KSit o i s kg 8 0 0 (parked (bare g) #[rcase c (N.zero s)] (N.shape s)) w
 | pkS {g : Goroutine} {w : World} {c : Nat} {v : Value} : N.act s = .send c v → (∀ o', Agr w.heap.size o o' → ∀ w₁, KR ty Wg (ownK o' i) kg.Got kg.Rd w w₁ → KStop P ty Wg N (ownK o' i) s kg.Got kg.Rd g w₁) →
     KSit o i s kg 8 0 0 (parked (bare g) #[scase c v (N.zero s)] .send) w
 | k1 {m : Nat} {g : Goroutine} {w : World} : N.act s = .done → (∀ o', Agr w.heap.size o o' → ∀ w₁, KR ty Wg (ownK o' i) kg.Got kg.Rd w w₁ → N.Fin s w₁) → Goes P false (RL ty Wg) DC0 (AtK1 P ty Wg) m g w → KSit o i s kg 6 m 0 g w
 | d1 {m : Nat} {g : Goroutine} {w : World} : N.act s = .done → (∀ o', Agr w.heap.size o o' → ∀ w₁, KR ty Wg (ownK o' i) kg.Got kg.Rd w w₁ → N.Fin s w₁) → Goes P false (RL ty Wg) DC0 (AtD1 P ty Wg) m g w → KSit o i s kg 5 m 1 g w
 | d2 {m : Nat} {g : Goroutine} {w : World} : N.act s = .done → (∀ o', Agr w.heap.size o o' → ∀ w₁, KR ty Wg (ownK o' i) kg.Got kg.Rd w w₁ → N.Fin s w₁) → Goes P false (RL ty Wg) DC0 (AtD2 P ty Wg) m g w → KSit o i s kg 4 m 1 g w
 | d3 {m : Nat} {g : Goroutine} {w : World} : N.act s = .done → (∀ o', Agr w.heap.size o o' → ∀ w₁, KR ty Wg (ownK o' i) kg.Got kg.Rd w w₁ → N.Fin s w₁) → Goes P false (RL ty Wg) DC0 (AtD3 P ty Wg) m g w → KSit o i s kg 3 m 1 g w
 | d4 {m : Nat} {g : Goroutine} {w : World} : N.act s = .done → (∀ o', Agr w.heap.size o o' → ∀ w₁, KR ty Wg (ownK o' i) kg.Got kg.Rd w w₁ → N.Fin s w₁) → Goes P false (RL ty Wg) DC0 (AtD4 P ty Wg) m g w → KSit o i s kg 2 m 1 g w
 | quit {q d : Nat} {g : Goroutine} {w : World} : N.act s = .done → (∀ o', Agr w.heap.size o o' → ∀ w₁, KR ty Wg (ownK o' i) kg.Got kg.Rd w w₁ → N.Fin s w₁) → QuitsD P q d g → KSit o i s kg 1 q d g w
inductive MTag where
 | run | pk | a1 | ke | go | anch | w1 | w2 (vs : Nat) | w3 | blk | w4 | kw | acq
inductive MSit (o : Nat → Nat) (Given : Cells) (Fz : Nat → Prop) : MTag → (N.M → Prop) → Nat → Nat → Goroutine → World → Prop
 | run {Q : N.M → Prop} {f : Nat} {g : Goroutine} {w : World} : (∀ o', Agr w.heap.size o o' → MGoo P ty Wg (own0 o') Given Fz (fun g w => ∃ m, Q m ∧ N.Main (own0 o') m Given Fz g w) f g w) → MSit o Given Fz .run Q (f + 1) 0 g w
 | pk {m : N.M} {g : Goroutine} {w : World} {c : Nat} {v : Value} : N.mact m = .send c v → (∀ o', Agr w.heap.size o o' → ∀ w₁, MR ty Wg (own0 o') Given w w₁ → MStop P ty Wg N (own0 o') m Given Fz g w₁) →
     MSit o Given Fz .pk (· = m) 0 0 (parked (bare g) #[scase c v (N.mzero m)] .send) w
 | a1 {m : N.M} {f : Nat} {g : Goroutine} {w : World} : N.mact m = .hire → (∀ o', Agr w.heap.size o o' → MGoo P ty Wg (own0 o') Given Fz (AtA1 P ty Wg N (own0 o') m Given Fz) f g w) → MSit o Given Fz .a1 (· = m) f 1 g w
 | ke {m : N.M} {f : Nat} {g : Goroutine} {w : World} : N.mact m = .hire → (∀ o', Agr w.heap.size o o' → MGoo P ty Wg (own0 o') Given Fz (AtKe P ty Wg N (own0 o') m Given Fz) f g w) → MSit o Given Fz .ke (· = m) f 1 g w
 | go {m : N.M} {f : Nat} {g : Goroutine} {w : World} : N.mact m = .hire → (∀ o', Agr w.heap.size o o' → MGoo P ty Wg (own0 o') Given Fz (AtGo P ty Wg N (own0 o') m Given Fz) f g w) → MSit o Given Fz .go (· = m) f 0 g w
 | anch {m : N.M} {f : Nat} {g : Goroutine} {w : World} : N.mact m = .wait → (∀ o', Agr w.heap.size o o' → MGoo P ty Wg (own0 o') Given Fz (N.Anch (own0 o') m Given Fz) f g w) → MSit o Given Fz .anch (· = m) f 1 g w
 | w1 {m : N.M} {f : Nat} {g : Goroutine} {w : World} : N.mact m = .wait → (∀ o', Agr w.heap.size o o' → MGoo P ty Wg (own0 o') Given Fz (AtW1 P ty Wg N (own0 o') m Given Fz) f g w) → MSit o Given Fz .w1 (· = m) f 1 g w
 | w2 {m : N.M} {vs f : Nat} {g : Goroutine} {w : World} : N.mact m = .wait → (∀ o', Agr w.heap.size o o' → MGoo P ty Wg (own0 o') Given Fz (AtW2 P ty Wg N (own0 o') m Given Fz vs) f g w) → MSit o Given Fz (.w2 vs) (· = m) f 1 g w
 | w3 {m : N.M} {f : Nat} {g : Goroutine} {w : World} : N.mact m = .wait → (∀ o', Agr w.heap.size o o' → MGoo P ty Wg (own0 o') Given Fz (AtW3 P ty Wg N (own0 o') m Given Fz) f g w) → MSit o Given Fz .w3 (· = m) (f + 1) 1 g w
 | blk {m : N.M} {g : Goroutine} {w : World} : N.mact m = .wait → (∀ o', Agr w.heap.size o o' → ∀ w₁, MR ty Wg (own0 o') Given w w₁ → AtW3 P ty Wg N (own0 o') m Given Fz g w₁) → MSit o Given Fz .blk (· = m) 0 1 { g with status := .blocked } w
 | w4 {m : N.M} {f : Nat} {g : Goroutine} {w : World} : N.mact m = .wait → (∀ o', Agr w.heap.size o o' → MGoo P ty Wg (own0 o') Given Fz (AtW4 P ty Wg N (own0 o') m Given Fz) f g w) → MSit o Given Fz .w4 (· = m) f 1 g w
 | kw {m : N.M} {f : Nat} {g : Goroutine} {w : World} : N.mact m = .wait → (∀ o', Agr w.heap.size o o' → MGoo P ty Wg (own0 o') Given Fz (AtKw P ty Wg N (own0 o') m Given Fz) f g w) → MSit o Given Fz .kw (· = m) f 1 g w
 | acq {m : N.M} {f : Nat} {g : Goroutine} {w : World} : N.mact m = .wait → (∀ o', Agr w.heap.size o o' → MGoo P ty Wg (own0 o') Given Fz (AtAcq P Wg N m) f g w) → MSit o Given Fz .acq (· = m) f 0 g w
end
theorem Agr.refl (n : Nat) (o : Nat → Nat) : Agr n o o := fun _ _ => rfl
theorem Agr.of {n n' : Nat} {o o₁ o' : Nat → Nat} (h : Agr n o o₁) (hn : n ≤ n') (h' : Agr n' o₁ o') : Agr n o o' := fun b hb => (h' b (by omega)).trans (h b hb)
section
variable {P : Program} {ty : TypeId} {Wg : Nat} {N : Net} {o o₁ : Nat → Nat} {i : Nat} {s : N.S} {kg : KG} {st f d : Nat} {g : Goroutine} {w w₁ : World} {Given : Cells} {Fz : Nat → Prop} {tag : MTag} {Q : N.M → Prop}
theorem KR.agr {o' : Nat → Nat} (h : KR ty Wg (ownK o i) kg.Got kg.Rd w w₁) (ha : Agr w.heap.size o o') : KR ty Wg (ownK o' i) kg.Got kg.Rd w w₁ :=
 Rel.less h fun b x hb hk => hk.imp (fun e => by unfold ownK at *; rw [← ha b hb]; exact e) id
theorem MR.agr {o' : Nat → Nat} (h : MR ty Wg (own0 o) Given w w₁) (ha : Agr w.heap.size o o') : MR ty Wg (own0 o') Given w w₁ :=
 Rel.less h fun b x hb hk => ⟨by have := hk.1; unfold own0 at *; rw [← ha b hb]; exact this, hk.2⟩
theorem KSit.rely (h : KSit P ty Wg N o i s kg st f d g w) (hr : KR ty Wg (ownK o i) kg.Got kg.Rd w w₁) (ha : Agr w.heap.size o o₁) : KSit P ty Wg N o₁ i s kg st f d g w₁ := by
 have key : ∀ o', Agr w₁.heap.size o₁ o' → Agr w.heap.size o o' ∧ KR ty Wg (ownK o' i) kg.Got kg.Rd w w₁ := fun o' h' => ⟨ha.of hr.size h', hr.agr (ha.of hr.size h')⟩
 have hrl : RL ty Wg w w₁ := hr.live
 have trl : ∀ a b c, RL ty Wg a b → RL ty Wg b c → RL ty Wg a c := fun _ _ _ h1 h2 => h2 ∘ h1
 have fin : (∀ o', Agr w.heap.size o o' → ∀ w₁, KR ty Wg (ownK o' i) kg.Got kg.Rd w w₁ → N.Fin s w₁) → ∀ o', Agr w₁.heap.size o₁ o' → ∀ w₂, KR ty Wg (ownK o' i) kg.Got kg.Rd w₁ w₂ → N.Fin s w₂ :=
   fun hf o' h' w₂ h₂ => hf o' (key o' h').1 w₂ ((key o' h').2.trans h₂)
 cases h with
 | run h => exact .run fun o' h' => Goo.rely Rel.tr (h o' (key o' h').1) (key o' h').2
 | wok h => exact .wok fun o' h' w₂ h₂ => h o' (key o' h').1 w₂ ((key o' h').2.trans h₂)
 | pkR ha h => exact .pkR ha fun o' h' w₂ h₂ => h o' (key o' h').1 w₂ ((key o' h').2.trans h₂)
 | pkS ha h => exact .pkS ha fun o' h' w₂ h₂ => h o' (key o' h').1 w₂ ((key o' h').2.trans h₂)
 | k1 h0 hf h => exact .k1 h0 (fin hf) (Goes.rely trl h hrl)
 | d1 h0 hf h => exact .d1 h0 (fin hf) (Goes.rely trl h hrl)
 | d2 h0 hf h => exact .d2 h0 (fin hf) (Goes.rely trl h hrl)
 | d3 h0 hf h => exact .d3 h0 (fin hf) (Goes.rely trl h hrl)
 | d4 h0 hf h => exact .d4 h0 (fin hf) (Goes.rely trl h hrl)
 | quit h0 hf h => exact .quit h0 (fin hf) h
theorem MSit.rely (h : MSit P ty Wg N o Given Fz tag Q f d g w) (hr : MR ty Wg (own0 o) Given w w₁) (ha : Agr w.heap.size o o₁) : MSit P ty Wg N o₁ Given Fz tag Q f d g w₁ := by
 have key : ∀ o', Agr w₁.heap.size o₁ o' → Agr w.heap.size o o' ∧ MR ty Wg (own0 o') Given w w₁ := fun o' h' => ⟨ha.of hr.size h', hr.agr (ha.of hr.size h')⟩
 cases h with
 | run h => exact .run fun o' h' => Goo.rely Rel.tr (h o' (key o' h').1) (key o' h').2
 | pk ha h => exact .pk ha fun o' h' w₂ h₂ => h o' (key o' h').1 w₂ ((key o' h').2.trans h₂)
 | a1 ha h => exact .a1 ha fun o' h' => Goo.rely Rel.tr (h o' (key o' h').1) (key o' h').2
 | ke ha h => exact .ke ha fun o' h' => Goo.rely Rel.tr (h o' (key o' h').1) (key o' h').2
 | go ha h => exact .go ha fun o' h' => Goo.rely Rel.tr (h o' (key o' h').1) (key o' h').2
 | anch ha h => exact .anch ha fun o' h' => Goo.rely Rel.tr (h o' (key o' h').1) (key o' h').2
 | w1 ha h => exact .w1 ha fun o' h' => Goo.rely Rel.tr (h o' (key o' h').1) (key o' h').2
 | w2 ha h => exact .w2 ha fun o' h' => Goo.rely Rel.tr (h o' (key o' h').1) (key o' h').2
 | w3 ha h => exact .w3 ha fun o' h' => Goo.rely Rel.tr (h o' (key o' h').1) (key o' h').2
 | blk ha h => exact .blk ha fun o' h' w₂ h₂ => h o' (key o' h').1 w₂ ((key o' h').2.trans h₂)
 | w4 ha h => exact .w4 ha fun o' h' => Goo.rely Rel.tr (h o' (key o' h').1) (key o' h').2
 | kw ha h => exact .kw ha fun o' h' => Goo.rely Rel.tr (h o' (key o' h').1) (key o' h').2
 | acq ha h => exact .acq ha fun o' h' => Goo.rely Rel.tr (h o' (key o' h').1) (key o' h').2
end
end Go.Proofs.Ytblpmdolclalnaa
namespace Go.Proofs.Ytblpmdolclalnaa
open Go.Conc
open Go.ConcR (WgAt KK stA smA rd wr mk DC0)
open Go.ConcN (WgLive sumTo upd upd_same upd_ne sumTo_upd sumTo_congr RelBy)
structure KDt (N : Net) where
 s : N.S
 kg : KG
 stage : Nat
 fuel : Nat
 deaf : Nat
def cnt (st : Nat) : Nat := if 5 ≤ st then 1 else 0
def Vc (j : Nat) (sg : Nat → Nat) : Nat := sumTo j fun i => cnt (sg i)
def pend : MTag → Nat
 | .ke | .go => 1
 | _ => 0
def isOpen : MTag → Prop
 | .run | .pk | .a1 | .ke | .go | .anch | .w1 | .w2 _ => True
 | _ => False
def isW3 : MTag → Prop
 | .w3 | .blk => True
 | _ => False
def isFin : MTag → Prop
 | .w4 | .kw | .acq => True
 | _ => False
inductive Mode (j : Nat) (sg : Nat → Nat) : MTag → Int → Int → Prop
 | opn {tag : MTag} : isOpen tag → (∀ i, i < j → sg i = 8 ∨ sg i = 6 ∨ sg i = 5 ∨ sg i = 1) → (∀ vs, tag = .w2 vs → Vc j sg ≤ vs ∧ 1 ≤ vs) → Mode j sg tag (((Vc j sg + pend tag : Nat) : Int) * KK) 0
 | reg {tag : MTag} : isW3 tag → (∀ i, i < j → sg i = 8 ∨ sg i = 6 ∨ sg i = 5 ∨ sg i = 1) → 1 ≤ Vc j sg → Mode j sg tag (((Vc j sg : Nat) : Int) * KK + 1) 0
 | last {tag : MTag} (L : Nat) : isW3 tag → L < j → (sg L = 4 ∨ sg L = 3 ∨ sg L = 2) → (∀ i, i < j → i ≠ L → sg i = 1) → Mode j sg tag (if sg L = 2 then 0 else 1) 0
 | sema : (∀ i, i < j → sg i = 1) → Mode j sg .w3 0 1
 | fin {tag : MTag} : isFin tag → (∀ i, i < j → sg i = 1) → Mode j sg tag 0 0
def phi (j V B : Nat) : MTag → Nat
 | .run | .pk => 64 * B + 8 * j + 20
 | .a1 => 64 * B + 8 * j + 19
 | .ke => 64 * B + 8 * j + 18
 | .go => 64 * B + 8 * j + 17
 | .anch => 8 * V + 6
 | .w1 => 8 * V + 5
 | .w2 vs => 8 * vs + 4
 | .w3 | .blk => 5
 | .w4 => 4
 | .kw => 3
 | .acq => 2
structure Cf (N : Net) where
 gs : Array Goroutine
 w : World
 sl : Option (Nat × Nat)
 o : Nat → Nat
 Given : Cells
 Fz : Nat → Prop
 cl : Nat → Option Bool
 j : Nat
 D : Nat → KDt N
 tag : MTag
 Q : N.M → Prop
 B : Nat
 f0 : Nat
 d0 : Nat
 st : Int
 sm : Int
 q : Nat → Nat
def kmu (N : Net) (x : KDt N) : Nat := 64 * N.muS x.s + x.stage
def mu1 {N : Net} (c : Cf N) : Nat := phi c.j (Vc c.j fun i => (c.D i).stage) c.B c.tag + sumTo c.j fun i => kmu N (c.D i)
def mu2 {N : Net} (base : Nat) (c : Cf N) : Nat := c.f0 + 2 * (sumTo c.j fun i => (c.D i).fuel) + 2 * sumTo base c.q
def Less {N : Net} (base : Nat) (c' c : Cf N) : Prop := mu1 c' < mu1 c ∨ (mu1 c' = mu1 c ∧ mu2 base c' < mu2 base c)
def Rels (Wg T0 : Nat) (t : Trace) (k : Nat) : Prop := ∃ r, T0 ≤ r ∧ r < t.size ∧ RelBy (stA Wg) t k r ∧ ∀ x a, r < x → t.g? x = some k → touchAt t x = some a → (∃ ad : Addr, a.loc = .cell ad ∧ ad.block = Wg) ∧ a.kind = .atomic
section
variable (P : Program) (ty : TypeId) (Wg : Nat) (N : Net) (Shun : Nat → Prop) (base T0 : Nat)
structure Inv (c : Cf N) (t : Trace) : Prop where
 size : c.gs.size = base + c.j
 main : ∃ a, c.gs[0]? = some a ∧ MSit P ty Wg N c.o c.Given c.Fz c.tag c.Q c.f0 c.d0 a c.w
 kids : ∀ i, i < c.j → ∃ g, c.gs[base + i]? = some g ∧ KSit P ty Wg N c.o i (c.D i).s (c.D i).kg (c.D i).stage (c.D i).fuel (c.D i).deaf g c.w
 old : ∀ i g, 0 < i → i < base → c.gs[i]? = some g → QuitsD P (c.q i) (Deaf t i) g
 above : ∀ i, base + c.j ≤ i → Deaf t i = 0
 deafK : ∀ i, i < c.j → Deaf t (base + i) = (c.D i).deaf
 deaf0 : Deaf t 0 = c.d0
 gh : Gh Wg Shun c.o c.w.heap.size c.Given c.Fz (fun x => c.cl x ≠ none) c.j (fun i => (c.D i).kg)
 tr : Tr Wg Shun c.o c.w.heap.size c.Given c.Fz base c.j (fun i => (c.D i).kg) T0 (Nc c.w) t
 chan : ∀ x b, c.cl x = some b → ∃ k, c.w.heap[x]? = some (.chan 0 #[] b k k false)
 wg : WgAt ty Wg c.w c.st c.sm
 mode : Mode c.j (fun i => (c.D i).stage) c.tag c.st c.sm
 rel : ∀ i, i < c.j → (c.D i).stage ≤ 6 → Rels Wg T0 t (base + i)
 prot : ∀ m, c.Q m → N.I m c.j (fun i => (c.D i).s) c.cl ∧ N.muM m ≤ c.B
 ex : ∃ m, c.Q m
 t0 : T0 ≤ t.size
 pOpen : ∀ i, i < c.j → (c.D i).stage = 8 → (c.D i).fuel = 0 → ∀ x, N.act (c.D i).s = .recv x → c.cl x = some false
 pKK : ∀ i k x v, i < c.j → k < c.j → (c.D i).stage = 8 → (c.D i).fuel = 0 → (c.D k).stage = 8 → (c.D k).fuel = 0 → N.act (c.D i).s = .recv x → N.act (c.D k).s ≠ .send x v
 pMK : c.tag = .pk → ∀ m, c.Q m → ∀ i x v, i < c.j → (c.D i).stage = 8 → (c.D i).fuel = 0 → N.act (c.D i).s = .recv x → N.mact m ≠ .send x v
end
def Onward (P : Program) (ty : TypeId) (Wg : Nat) (N : Net) (Shun : Nat → Prop) (base T0 : Nat) (c : Cf N) (t : Trace) (r : Stepped × Array MemOp) : Prop :=
 ∃ c' : Cf N, r.1 = .next (crowd c'.gs c'.w c'.sl) ∧ Less base c' c ∧ Inv P ty Wg N Shun base T0 c' (t ++ r.2)
theorem Rels.app {Wg T0 : Nat} {t u : Trace} {k : Nat} (h : Rels Wg T0 t k) (hu : ∀ op ∈ u, op.g ≠ k) : Rels Wg T0 (t ++ u) k := by
 obtain ⟨r, h0, h1, h2, h3⟩ := h
 refine ⟨r, h0, by simp; omega, h2.app (fun i hi hg => ?_), fun x a hx hg ha => ?_⟩
 · obtain ⟨op, ho, hog⟩ := Option.map_eq_some_iff.1 hg
   rcases getElem?_append_cases ho with ⟨hlt, _⟩ | ⟨_, hm⟩
   · omega
   · exact absurd hog (hu op hm)
 · rcases touchAt_app ha with ⟨hlt, ha'⟩ | ⟨_, op, hop, hio, _⟩
   · exact h3 x a hx (by rw [← g?_old (u := u) hlt]; exact hg) ha'
   · have : op.g = k := by simpa [Trace.g?, hio] using hg
     exact absurd this (hu op hop)
section
variable {P : Program} {ty : TypeId} {Wg : Nat} {N : Net} {o : Nat → Nat} {i : Nat} {s : N.S} {kg : KG} {st f d : Nat} {g : Goroutine} {w : World} {Given : Cells} {Fz : Nat → Prop} {tag : MTag} {Q : N.M → Prop}
theorem KSit.status (hN : NetOK P ty Wg N) (h : KSit P ty Wg N o i s kg st f d g w) : (g.status = .running ∧ (st = 8 → 0 < f)) ∨ (g.status = .blocked ∧ st = 8 ∧ f = 0) ∨ (g.status = .finished ∧ st = 1) := by
 have r : ∀ {Stop : Goroutine → World → Prop} {m : Nat}, (∀ g w, Stop g w → g.status = .running) → Goes P false (RL ty Wg) DC0 Stop m g w → g.status = .running := fun hS h => Goes.running hS w (fun x => x) h
 cases h with
 | run h => exact .inl ⟨Goo.running (fun a => Rel.refl a) (fun g w x => (hN.kid _ _ _ _ _ _ x).1) (h o (Agr.refl _ _)), fun _ => by omega⟩
 | wok h => exact .inl ⟨(h o (Agr.refl _ _) w (Rel.refl w)).1, fun _ => by omega⟩
 | pkR _ _ => exact .inr (.inl ⟨rfl, rfl, rfl⟩)
 | pkS _ _ => exact .inr (.inl ⟨rfl, rfl, rfl⟩)
 | k1 _ _ h => exact .inl ⟨r (fun _ _ x => x.1) h, fun e => by omega⟩
 | d1 _ _ h => exact .inl ⟨r (fun _ _ x => x.1) h, fun e => by omega⟩
 | d2 _ _ h => exact .inl ⟨r (fun _ _ x => x.1) h, fun e => by omega⟩
 | d3 _ _ h => exact .inl ⟨r (fun _ _ x => x.1) h, fun e => by omega⟩
 | d4 _ _ h => exact .inl ⟨r (fun _ _ x => x.1) h, fun e => by omega⟩
 | quit _ _ h => exact h.status.elim (fun x => .inl ⟨x, fun e => by omega⟩) (fun x => .inr (.inr ⟨x, rfl⟩))
theorem MSit.status (hN : NetOK P ty Wg N) (h : MSit P ty Wg N o Given Fz tag Q f d g w) : (g.status = .running ∧ tag ≠ .pk ∧ tag ≠ .blk) ∨ (g.status = .blocked ∧ (tag = .pk ∨ tag = .blk)) := by
 have r : ∀ {Stop : Goroutine → World → Prop} {m : Nat}, (∀ g w, Stop g w → g.status = .running) → MGoo P ty Wg (own0 o) Given Fz Stop m g w → g.status = .running := fun hS h => Goo.running (fun a => Rel.refl a) hS h
 cases h with
 | run h => exact .inl ⟨r (fun g w ⟨m, _, x⟩ => (hN.main _ _ _ _ _ _ x).1) (h o (Agr.refl _ _)), by simp, by simp⟩
 | pk _ _ => exact .inr ⟨rfl, .inl rfl⟩
 | a1 _ h => exact .inl ⟨r (fun _ _ x => x.1) (h o (Agr.refl _ _)), by simp, by simp⟩
 | ke _ h => exact .inl ⟨r (fun _ _ x => x.1) (h o (Agr.refl _ _)), by simp, by simp⟩
 | go _ h => exact .inl ⟨r (fun _ _ x => x.1) (h o (Agr.refl _ _)), by simp, by simp⟩
 | anch _ h => exact .inl ⟨r (fun _ _ x => (hN.anch _ _ _ _ _ _ x).1) (h o (Agr.refl _ _)), by simp, by simp⟩
 | w1 _ h => exact .inl ⟨r (fun _ _ x => x.1) (h o (Agr.refl _ _)), by simp, by simp⟩
 | w2 _ h => exact .inl ⟨r (fun _ _ x => x.1) (h o (Agr.refl _ _)), by simp, by simp⟩
 | w3 _ h => exact .inl ⟨r (fun _ _ x => x.1) (h o (Agr.refl _ _)), by simp, by simp⟩
 | blk _ _ => exact .inr ⟨rfl, .inr rfl⟩
 | w4 _ h => exact .inl ⟨r (fun _ _ x => x.1) (h o (Agr.refl _ _)), by simp, by simp⟩
 | kw _ h => exact .inl ⟨r (fun _ _ x => x.1) (h o (Agr.refl _ _)), by simp, by simp⟩
 | acq _ h => exact .inl ⟨r (fun _ _ x => x.1) (h o (Agr.refl _ _)), by simp, by simp⟩
theorem KSit.woken (hN : NetOK P ty Wg N) (h : KSit P ty Wg N o i s kg st f d g w) (x x' : Goroutine)
   (hc : st = 8 → f = 0 → ∀ c, (N.act s = .recv c ∨ ∃ v, N.act s = .send c v) → ∃ k, w.heap[c]? = some (.chan 0 #[] false k k false)) : Go.Conc.woken P x x' w g = g := by
 have hs := h.status hN
 cases h with
 | pkR ha _ => obtain ⟨k, hk⟩ := hc rfl rfl _ (.inl ha); exact woken_recv_open x x' hk
 | pkS ha _ => obtain ⟨k, hk⟩ := hc rfl rfl _ (.inr ⟨_, ha⟩); exact woken_send_open x x' hk
 | _ =>
   unfold Go.Conc.woken
   split
   · refine again_running _ ?_
     rcases hs with ⟨y, _⟩ | ⟨_, y, z⟩ | ⟨y, _⟩
     · exact .inl y
     · first | omega | simp at z | simp at y
     · exact .inr y
   · rfl
theorem MSit.wokenBy (hN : NetOK P ty Wg N) (h : MSit P ty Wg N o Given Fz tag Q f d g w) (x x' : Goroutine)
   (hc : tag = .pk → ∀ m c v, Q m → N.mact m = .send c v → ∃ k, w.heap[c]? = some (.chan 0 #[] false k k false)) :
   ∃ tag' f', MSit P ty Wg N o Given Fz tag' Q f' d (Go.Conc.woken P x x' w g) w ∧ f' ≤ f + 1 ∧ (tag' = tag ∨ (tag = .blk ∧ tag' = .w3)) ∧ (mayWake P x = true → x'.status = .running → tag' ≠ .blk) ∧ (tag' = tag → f' = f) := by
 have hs := h.status hN
 have still : (∀ c, tag ≠ .blk → g.status ≠ .blocked → Go.Conc.woken P x x' c g = g) := fun c h1 h2 => by
   rcases hs with ⟨y, _⟩ | ⟨y, _⟩
   · exact woken_run y
   · exact absurd y h2
 cases h with
 | pk ha h =>
   obtain ⟨k, hk⟩ := hc rfl _ _ _ rfl ha
   refine ⟨_, _, ?_, by omega, .inl rfl, by simp, fun _ => rfl⟩
   rw [woken_send_open x x' hk]
   exact .pk ha h
 | @blk m g' w ha h =>
   by_cases hw : Go.Conc.woken P x x' w { g' with status := .blocked } = { g' with status := .blocked }
   · refine ⟨.blk, _, by rw [hw]; exact .blk ha h, by omega, .inl rfl, fun h1 h2 => ?_, fun _ => rfl⟩
     exfalso
     have ho : g'.offers = none := (h o (Agr.refl _ _) w (Rel.refl w)).2.1
     unfold Go.Conc.woken at hw
     rw [if_pos (by simp [h1, h2])] at hw
     have : (Goroutine.again w { g' with status := .blocked }).status = .running := by simp [Goroutine.again, ho]
     rw [hw] at this
     cases this
   · have e : Go.Conc.woken P x x' w { g' with status := .blocked } = g' := by
       have ho : g'.offers = none := (h o (Agr.refl _ _) w (Rel.refl w)).2.1
       have hr : g'.status = .running := (h o (Agr.refl _ _) w (Rel.refl w)).1
       unfold Go.Conc.woken at hw ⊢
       split at hw
       · rename_i hcond
         rw [if_pos hcond]
         simp only [Goroutine.again, ho]
         cases g'
         simp_all
       · exact absurd rfl hw
     refine ⟨.w3, 1, by rw [e]; exact .w3 (f := 0) ha fun o' h' => h o' h', by omega, .inr ⟨rfl, rfl⟩, by simp, by simp⟩
 | run h => exact ⟨_, _, by rw [still _ (by simp) (by rcases hs with ⟨y, _⟩ | ⟨_, y⟩ <;> simp_all)]; exact .run h, by omega, .inl rfl, by simp, fun _ => rfl⟩
 | a1 ha h => exact ⟨_, _, by rw [still _ (by simp) (by rcases hs with ⟨y, _⟩ | ⟨_, y⟩ <;> simp_all)]; exact .a1 ha h, by omega, .inl rfl, by simp, fun _ => rfl⟩
 | ke ha h => exact ⟨_, _, by rw [still _ (by simp) (by rcases hs with ⟨y, _⟩ | ⟨_, y⟩ <;> simp_all)]; exact .ke ha h, by omega, .inl rfl, by simp, fun _ => rfl⟩
 | go ha h => exact ⟨_, _, by rw [still _ (by simp) (by rcases hs with ⟨y, _⟩ | ⟨_, y⟩ <;> simp_all)]; exact .go ha h, by omega, .inl rfl, by simp, fun _ => rfl⟩
 | anch ha h => exact ⟨_, _, by rw [still _ (by simp) (by rcases hs with ⟨y, _⟩ | ⟨_, y⟩ <;> simp_all)]; exact .anch ha h, by omega, .inl rfl, by simp, fun _ => rfl⟩
 | w1 ha h => exact ⟨_, _, by rw [still _ (by simp) (by rcases hs with ⟨y, _⟩ | ⟨_, y⟩ <;> simp_all)]; exact .w1 ha h, by omega, .inl rfl, by simp, fun _ => rfl⟩
 | w2 ha h => exact ⟨_, _, by rw [still _ (by simp) (by rcases hs with ⟨y, _⟩ | ⟨_, y⟩ <;> simp_all)]; exact .w2 ha h, by omega, .inl rfl, by simp, fun _ => rfl⟩
 | w3 ha h => exact ⟨_, _, by rw [still _ (by simp) (by rcases hs with ⟨y, _⟩ | ⟨_, y⟩ <;> simp_all)]; exact .w3 ha h, by omega, .inl rfl, by simp, fun _ => rfl⟩
 | w4 ha h => exact ⟨_, _, by rw [still _ (by simp) (by rcases hs with ⟨y, _⟩ | ⟨_, y⟩ <;> simp_all)]; exact .w4 ha h, by omega, .inl rfl, by simp, fun _ => rfl⟩
 | kw ha h => exact ⟨_, _, by rw [still _ (by simp) (by rcases hs with ⟨y, _⟩ | ⟨_, y⟩ <;> simp_all)]; exact .kw ha h, by omega, .inl rfl, by simp, fun _ => rfl⟩
 | acq ha h => exact ⟨_, _, by rw [still _ (by simp) (by rcases hs with ⟨y, _⟩ | ⟨_, y⟩ <;> simp_all)]; exact .acq ha h, by omega, .inl rfl, by simp, fun _ => rfl⟩
end
end Go.Proofs.Ytblpmdolclalnaa
namespace Go.Proofs.Ytblpmdolclalnaa
open Go.Conc
open Go.ConcR (WgAt KK stA smA rd wr mk DC0 deafBehind_cons deafBehind_one)
open Go.ConcN (WgLive sumTo upd upd_same upd_ne sumTo_upd sumTo_congr RelBy)
section
variable {P : Program} {ty : TypeId} {Wg : Nat} {N : Net} {Shun : Nat → Prop} {base T0 : Nat}
theorem Gh.grow {o o₁ : Nat → Nat} {n n' j : Nat} {Given : Cells} {Fz Ch : Nat → Prop} {D : Nat → KG} (h : Gh Wg Shun o n Given Fz Ch j D) (ha : Agr n o o₁) (hn : n ≤ n') (hnew : ∀ b, n ≤ b → b < n' → o₁ b ≤ j) : Gh Wg Shun o₁ n' Given Fz Ch j D := by
 refine ⟨⟨by have := h.wg.1; omega, (ha _ h.wg.1).trans h.wg.2.1, h.wg.2.2⟩, fun b hb => ⟨by have := (h.shun b hb).1; omega, (ha _ (h.shun b hb).1).trans (h.shun b hb).2.1, (h.shun b hb).2.2⟩, fun b hb => ⟨by have := (h.fz b hb).1; omega, (ha _ (h.fz b hb).1).trans (h.fz b hb).2.1, (h.fz b hb).2.2⟩,
   fun c hc => ⟨by have := (h.ch c hc).1; omega, (ha _ (h.ch c hc).1).trans (h.ch c hc).2.1, (h.ch c hc).2.2⟩, fun b x hb => ⟨by have := (h.given b x hb).1; omega, (ha _ (h.given b x hb).1).trans (h.given b x hb).2⟩, h.got, h.rd, h.apart, fun b hb => ?_⟩
 rcases Nat.lt_or_ge b n with hlt | hge
 · rw [ha b hlt]; exact h.mine b hlt
 · exact hnew b hge hb
theorem Tr.agr {o o₁ : Nat → Nat} {n j : Nat} {Given : Cells} {Fz : Nat → Prop} {D : Nat → KG} {NC : Nat → Prop} {t : Trace} (h : Tr Wg Shun o n Given Fz base j D T0 NC t) (ha : Agr n o o₁) : Tr Wg Shun o₁ n Given Fz base j D T0 NC t :=
 ⟨h.clean, h.seen, h.seenO, fun a hlt ho => h.main a hlt (by rw [← ha _ hlt]; exact ho), fun i hi a hlt => ⟨fun ho => (h.kid i hi a hlt).1 (by rw [← ha _ hlt]; exact ho), (h.kid i hi a hlt).2⟩, h.sh, h.ob, h.acc, h.over, h.norel⟩
theorem get_map_set (gs : Array Goroutine) (f : Goroutine → Goroutine) (i k : Nat) (x : Goroutine) (h : k ≠ i) : ((gs.map f).setIfInBounds i x)[k]? = (gs[k]?).map f := by
 rw [Array.getElem?_setIfInBounds_ne (fun e => h e.symm), Array.getElem?_map]
theorem get_map_set_same (gs : Array Goroutine) (f : Goroutine → Goroutine) (i : Nat) (x : Goroutine) (h : i < gs.size) : ((gs.map f).setIfInBounds i x)[i]? = some x := by
 simp [h]
theorem okK_of {o : Nat → Nat} {n n' i : Nat} {NC : Nat → Prop} {kg : KG} {fn : FuncId} {pos : String} {g : Nat} {es : Array Event} (hgot : ∀ b x, kg.Got b x → b < n) (hrd : ∀ b, kg.Rd b → b < n) (hnew : ∀ b, n ≤ b → b < n' → o b = i + 1)
   (h : ∀ e ∈ es, EvOK false Wg (writK (ownK o i) kg.Got) (keepK (ownK o i) kg.Got kg.Rd) n n' NC e) : ∀ op ∈ MemOp.ofEvents g fn pos es, ∀ b, op.act.touch? = some b → OkK Wg o n n' NC kg i b := by
 intro op hop b hb
 obtain ⟨e, he, rfl⟩ := Go.Conc.mem_ofEvents hop
 rcases h e he with ⟨a, wr, sy, rfl, _, hlt, hw⟩ | ⟨hs, _⟩ | ⟨hs, _⟩ | rfl
 · simp only [ofEvent_cell0, MemAct.touch?, Option.some.injEq] at hb
   subst hb
   refine .inl ⟨a, rfl, hlt, ?_⟩
   rcases hw with hw | hw | ⟨rfl, hw⟩
   · exact .inl (.inl (hnew _ hw hlt))
   · rcases hw with hw | hw
     · exact .inl (.inl hw)
     · exact .inl (.inr ⟨hgot _ _ hw, hw⟩)
   · rcases hw with hw | hw | hw
     · exact .inl (.inl hw)
     · exact .inl (.inr ⟨hgot _ _ hw, hw⟩)
     · exact .inr ⟨hrd _ hw, hw, rfl⟩
 · cases hs
 · cases hs
 · simp [MemAct.ofEvent, MemAct.touch?] at hb
theorem okM_of {o : Nat → Nat} {n n' : Nat} {NC : Nat → Prop} {Given : Cells} {Fz : Nat → Prop} {fn : FuncId} {pos : String} {g : Nat} {es : Array Event} (hnew : ∀ b, n ≤ b → b < n' → o b = 0)
   (h : ∀ e ∈ es, EvOK true Wg (writM (own0 o) Given Fz) (keepM (own0 o) Given) n n' NC e) : ∀ op ∈ MemOp.ofEvents g fn pos es, ∀ b, op.act.touch? = some b → OkM Wg o n n' NC Given Fz b := by
 intro op hop b hb
 obtain ⟨e, he, rfl⟩ := Go.Conc.mem_ofEvents hop
 rcases h e he with ⟨a, wr, sy, rfl, _, hlt, hw⟩ | ⟨_, a, s1, s2, ha, hs⟩ | ⟨_, c, wr, rfl, hc, hlt⟩ | rfl
 · simp only [ofEvent_cell0, MemAct.touch?, Option.some.injEq] at hb
   subst hb
   refine .inl ⟨a, rfl, hlt, ?_⟩
   rcases Nat.lt_or_ge a.block n with hlt' | hge
   · rcases hw with hw | ⟨h1, h2, h3⟩ | ⟨rfl, h1, h2⟩
     · omega
     · exact ⟨h1, fun _ => ⟨h2, .inl h3⟩⟩
     · exact ⟨h1, fun _ => ⟨h2, .inr rfl⟩⟩
   · exact ⟨hnew _ hge hlt, fun x => by omega⟩
 · right; left
   rcases hs with rfl | rfl <;> simp only [MemAct.ofEvent, MemAct.touch?, Option.some.injEq] at hb <;> subst hb <;> exact ⟨.inl ⟨a, rfl, ha⟩, by simp⟩
 · right; right
   simp only [MemAct.ofEvent, MemAct.touch?, Option.some.injEq] at hb
   subst hb
   exact ⟨c, rfl, hc, hlt⟩
 · simp [MemAct.ofEvent, MemAct.touch?] at hb
theorem evOK_still {said : Bool} {Wr Rd : Cells} {n n' : Nat} {NC : Nat → Prop} {es : Array Event} (h : ∀ e ∈ es, EvOK said Wg Wr Rd n n' NC e) : (∀ e ∈ es, e.loc ≠ .mark .disable ∧ e.loc ≠ .mark .enable) ∧ ∀ g fn pos, ∀ op ∈ MemOp.ofEvents g fn pos es, ∀ a, op.act ≠ .mark (.release a) := by
 refine ⟨fun e he => ?_, fun g fn pos op hop a hr => ?_⟩
 · rcases h e he with ⟨a, wr, sy, rfl, _⟩ | ⟨_, a, s1, s2, _, rfl | rfl⟩ | ⟨_, c, wr, rfl, _⟩ | rfl <;> simp
 · obtain ⟨e, he, rfl⟩ := Go.Conc.mem_ofEvents hop
   rcases h e he with ⟨a', wr, sy, rfl, _⟩ | ⟨_, a', s1, s2, _, rfl | rfl⟩ | ⟨_, c, wr, rfl, _⟩ | rfl
   · rw [ofEvent_cell0] at hr; cases hr
   · simp [MemAct.ofEvent] at hr
   · simp [MemAct.ofEvent] at hr
   · simp [MemAct.ofEvent] at hr
   · simp [MemAct.ofEvent] at hr
theorem g_ofEvents {g : Nat} {fn : FuncId} {pos : String} {es : Array Event} : ∀ op ∈ MemOp.ofEvents g fn pos es, op.g = g := fun op hop => by obtain ⟨e, _, rfl⟩ := Go.Conc.mem_ofEvents hop; rfl
theorem Mode.retag {j : Nat} {sg : Nat → Nat} {tag tag' : MTag} {st sm : Int} (h : Mode j sg tag st sm) (e : tag' = tag ∨ (tag = .blk ∧ tag' = .w3)) : Mode j sg tag' st sm := by
 rcases e with rfl | ⟨rfl, rfl⟩
 · exact h
 · cases h with
   | opn h1 _ _ => exact h1.elim
   | reg _ h2 h3 => exact .reg trivial h2 h3
   | last L _ h2 h3 h4 => exact .last L trivial h2 h3 h4
   | fin h1 _ => exact h1.elim
theorem stage_same {D : Nat → KDt N} {i : Nat} {x : KDt N} (h : x.stage = (D i).stage) : (fun k => (upd D i x k).stage) = fun k => (D k).stage := by
 funext k
 by_cases hk : k = i
 · subst hk; rw [upd_same]; exact h
 · rw [upd_ne _ _ hk]
theorem Vc_upd {j i : Nat} (hi : i < j) (D : Nat → KDt N) (x : KDt N) : Vc j (fun k => (upd D i x k).stage) + cnt (D i).stage = Vc j (fun k => (D k).stage) + cnt x.stage := sumTo_upd D x (fun y => cnt y.stage) hi
theorem kmu_upd {j i : Nat} (hi : i < j) (D : Nat → KDt N) (x : KDt N) : (sumTo j fun k => kmu N (upd D i x k)) + kmu N (D i) = (sumTo j fun k => kmu N (D k)) + kmu N x := sumTo_upd D x (kmu N) hi
theorem fuel_upd {j i : Nat} (hi : i < j) (D : Nat → KDt N) (x : KDt N) : (sumTo j fun k => (upd D i x k).fuel) + (D i).fuel = (sumTo j fun k => (D k).fuel) + x.fuel := sumTo_upd D x KDt.fuel hi
theorem Less.of {c' c : Cf N} (h1 : mu1 c' < mu1 c ∨ (mu1 c' = mu1 c ∧ mu2 base c' < mu2 base c)) : Less base c' c := h1
theorem kidStep (hN : NetOK P ty Wg N) (hb : 0 < base) {c : Cf N} {t : Trace} (hI : Inv P ty Wg N Shun base T0 c t) {i : Nat} (hi : i < c.j) {g g' : Goroutine} {w' : World} {es : Array Event} {o₁ : Nat → Nat} {x : KDt N} {st' sm' : Int}
   (hg : c.gs[base + i]? = some g) (hgo : stepG P false g c.w = .go g' w' es) (hag : Agr c.w.heap.size c.o o₁) (hnew : ∀ b, c.w.heap.size ≤ b → b < w'.heap.size → o₁ b = i + 1)
   (hMR : MR ty Wg (own0 c.o) c.Given c.w w') (hKR : ∀ k, k < c.j → k ≠ i → KR ty Wg (ownK c.o k) (c.D k).kg.Got (c.D k).kg.Rd c.w w')
   (hsit : KSit P ty Wg N o₁ i x.s x.kg x.stage x.fuel x.deaf g' w') (hkg : x.kg = (c.D i).kg) (hs : x.s = (c.D i).s)
   (htr : Tr Wg Shun o₁ w'.heap.size c.Given c.Fz base c.j (fun i => (c.D i).kg) T0 (Nc w') (t ++ MemOp.ofEvents (base + i) g.frame.fn g.frame.place es))
   (hdf : deafBehind (c.D i).deaf es = x.deaf)
   (hchan : ∀ y b, c.cl y = some b → ∃ k, w'.heap[y]? = some (.chan 0 #[] b k k false)) (hwg : WgAt ty Wg w' st' sm')
   (hmode : ∀ tag', (tag' = c.tag ∨ (c.tag = .blk ∧ tag' = .w3)) → (mayWake P g = true → g'.status = .running → tag' ≠ .blk) → Mode c.j (fun k => (upd c.D i x k).stage) tag' st' sm')
   (hrel : x.stage ≤ 6 → Rels Wg T0 (t ++ MemOp.ofEvents (base + i) g.frame.fn g.frame.place es) (base + i)) (hnp : x.stage = 8 → x.fuel ≠ 0)
   (hlt : (x.stage < (c.D i).stage ∧ cnt x.stage ≤ cnt (c.D i).stage) ∨ (x.stage = (c.D i).stage ∧ x.fuel < (c.D i).fuel)) :
   Onward P ty Wg N Shun base T0 c t (runT P (crowd c.gs c.w c.sl) (base + i)) := by
 have hi0 : (base + i == 0) = false := by simp; omega
 have hrun := runT_crowd_go (P := P) (sl := c.sl) hg (by rw [hi0]; exact hgo)
 have hszg : base + i < c.gs.size := by rw [hI.size]; omega
 obtain ⟨a, ha, hma⟩ := hI.main
 have hopen : ∀ y, c.cl y = some false → ∃ k, w'.heap[y]? = some (.chan 0 #[] false k k false) := fun y hy => hchan y false hy
 obtain ⟨m₀, hm₀⟩ := hI.ex
 have hchs := hN.chans _ _ _ _ (hI.prot m₀ hm₀).1
 have hma' := hma.rely hMR hag
 obtain ⟨tag', f', hm', hf', htag, hwk, hsame⟩ := hma'.wokenBy hN g g' (fun _ m y v hQ hy => hopen y ((hN.chans _ _ _ _ (hI.prot m hQ).1).1 y v hy))
 have hDkg : (fun k => (upd c.D i x k).kg) = fun k => (c.D k).kg := by
   funext k
   by_cases hk : k = i
   · subst hk; rw [upd_same]; exact hkg
   · rw [upd_ne _ _ hk]
 have hDs : (fun k => (upd c.D i x k).s) = fun k => (c.D k).s := by
   funext k
   by_cases hk : k = i
   · subst hk; rw [upd_same]; exact hs
   · rw [upd_ne _ _ hk]
 have hothers : ∀ op ∈ MemOp.ofEvents (base + i) g.frame.fn g.frame.place es, op.g = base + i := g_ofEvents
 refine ⟨{ c with gs := (c.gs.map (woken P g g' w')).setIfInBounds (base + i) g', w := w', o := o₁, D := upd c.D i x, tag := tag', f0 := f', st := st', sm := sm' }, ?_, ?_, ?_⟩
 · rw [hrun]
 · -- the measure
   have e1 := kmu_upd hi c.D x
   have e2 := fuel_upd hi c.D x
   have e3 := Vc_upd hi c.D x
   have hphi : ∀ V V', V' ≤ V → phi c.j V' c.B tag' ≤ phi c.j V c.B c.tag := by
     intro V V' hV
     rcases htag with e | ⟨e, e'⟩
     · rw [e]; cases c.tag <;> simp only [phi] <;> omega
     · rw [e, e']; exact Nat.le_refl _
   show (_ ∨ _)
   simp only [mu1, mu2]
   have hk : kmu N x + (c.D i).stage = kmu N (c.D i) + x.stage := by simp only [kmu, hs]; omega
   rcases hlt with ⟨h1, h2⟩ | ⟨h1, h2⟩
   · left
     have hV : Vc c.j (fun k => (upd c.D i x k).stage) ≤ Vc c.j fun k => (c.D k).stage := by omega
     have := hphi _ _ hV
     omega
   · have hV : Vc c.j (fun k => (upd c.D i x k).stage) = Vc c.j fun k => (c.D k).stage := by rw [h1] at e3; omega
     right
     have hp : phi c.j (Vc c.j fun k => (upd c.D i x k).stage) c.B tag' = phi c.j (Vc c.j fun k => (c.D k).stage) c.B c.tag := by
       rw [hV]
       rcases htag with e | ⟨e, e'⟩
       · rw [e]
       · rw [e, e']; rfl
     refine ⟨by omega, ?_⟩
     omega
 · rw [hrun]
   refine ⟨?_, ?_, fun k hk => ?_, fun k y hk0 hkb hy => ?_, fun k hk => ?_, fun k hk => ?_, ?_, ?_, ?_, hchan, hwg, hmode tag' htag hwk, fun k hk hsg => ?_, fun m hm => by rw [hDs]; exact hI.prot m hm, hI.ex, ?_, fun k hk h8 h0 y hy => ?_, fun k k' y v hk hk' h8 h0 h8' h0' hy => ?_, fun htg m hm k y v hk h8 h0 hy => ?_⟩
   · simp [hI.size]
   · exact ⟨_, by rw [get_map_set _ _ _ _ _ (by omega), ha]; rfl, hm'⟩
   · by_cases hki : k = i
     · subst hki
       refine ⟨g', get_map_set_same _ _ _ _ hszg, ?_⟩
       simp only [upd_same]
       exact hsit
     · obtain ⟨y, hy, hsy⟩ := hI.kids k hk
       refine ⟨_, by rw [get_map_set _ _ _ _ _ (by omega), hy]; rfl, ?_⟩
       simp only [upd_ne _ _ hki]
       have hsy' := hsy.rely (hKR k hk hki) hag
       rw [hsy'.woken hN g g' fun h8 h0 y hy => ?_]
       · exact hsy'
       · rcases hy with hy | ⟨v, hy⟩
         · exact hopen y (hI.pOpen k hk h8 h0 y hy)
         · exact hopen y ((hchs.2 k hk).2 y v hy)
   · rw [get_map_set _ _ _ _ _ (by omega)] at hy
     obtain ⟨z, hz, rfl⟩ := Option.map_eq_some_iff.1 hy
     have hq := hI.old k z hk0 hkb hz
     rw [woken_quitsD hq, Deaf_other t (by omega) _ hothers]
     exact hq
   · have hk' : base + c.j ≤ k := hk
     rw [Deaf_other t (g' := base + i) (by omega) _ hothers]; exact hI.above k hk
   · by_cases hki : k = i
     · subst hki
       simp only [upd_same]
       rw [Deaf_own, hI.deafK k hk]; exact hdf
     · simp only [upd_ne _ _ hki]
       rw [Deaf_other t (by omega) _ hothers]; exact hI.deafK k hk
   · rw [Deaf_other t (by omega) _ hothers]; exact hI.deaf0
   · rw [hDkg]
     exact hI.gh.grow hag hMR.size fun b h1 h2 => by show o₁ b ≤ c.j; rw [hnew b h1 h2]; omega
   · rw [hDkg]; exact htr
   · by_cases hki : k = i
     · subst hki
       simp only [upd_same] at hsg
       exact hrel hsg
     · simp only [upd_ne _ _ hki] at hsg
       exact (hI.rel k hk hsg).app fun op hop e => by rw [hothers op hop] at e; omega
   · have := hI.t0; simp; omega
   · by_cases hki : k = i
     · subst hki
       simp only [upd_same] at h8 h0
       exact absurd h0 (hnp h8)
     · simp only [upd_ne _ _ hki] at h8 h0 hy
       exact hI.pOpen k hk h8 h0 y hy
   · by_cases hki : k = i
     · subst hki
       simp only [upd_same] at h8 h0
       exact absurd h0 (hnp h8)
     · by_cases hki' : k' = i
       · subst hki'
         simp only [upd_same] at h8' h0'
         exact absurd h0' (hnp h8')
       · simp only [upd_ne _ _ hki] at h8 h0 hy
         simp only [upd_ne _ _ hki'] at h8' h0' ⊢
         exact hI.pKK k k' y v hk hk' h8 h0 h8' h0' hy
   · by_cases hki : k = i
     · subst hki
       simp only [upd_same] at h8 h0
       exact absurd h0 (hnp h8)
     · simp only [upd_ne _ _ hki] at h8 h0 hy
       rcases htag with e | ⟨_, e⟩
       · exact hI.pMK (e ▸ htg) m hm k y v hk h8 h0 hy
       · rw [e] at htg; cases htg
theorem kid_plain (hN : NetOK P ty Wg N) (hb : 0 < base) {c : Cf N} {t : Trace} (hI : Inv P ty Wg N Shun base T0 c t) {i : Nat} (hi : i < c.j) {g : Goroutine} (hg : c.gs[base + i]? = some g) {m : Nat} (h8 : (c.D i).stage = 8) (hf : (c.D i).fuel = m + 3) (hd : (c.D i).deaf = 0)
   (h : ∀ o', Agr c.w.heap.size c.o o' → (stepG P false g c.w).goes fun g' w' es => KD Wg (ownK o' i) (c.D i).kg.Got (c.D i).kg.Rd c.w w' es ∧ (New (ownK o' i) c.w w' →
     Goo P false (ownK o' i) (KR ty Wg (ownK o' i) (c.D i).kg.Got (c.D i).kg.Rd) (KD Wg (ownK o' i) (c.D i).kg.Got (c.D i).kg.Rd) (N.Kid (ownK o' i) (c.D i).s (c.D i).kg.Got (c.D i).kg.Rd) m g' w')) :
   Onward P ty Wg N Shun base T0 c t (runT P (crowd c.gs c.w c.sl) (base + i)) := by
 have h0 := h c.o (Agr.refl _ _)
 cases hgo : stepG P false g c.w with
 | go g' w' es =>
   rw [hgo] at h h0
   simp only [goes_go] at h h0
   have hG := hI.gh
   have hgotlt : ∀ b x, (c.D i).kg.Got b x → b < c.w.heap.size := fun b x hx => (hG.given _ _ (hG.got i hi b x hx).1).1
   have hrdlt : ∀ b, (c.D i).kg.Rd b → b < c.w.heap.size := fun b hx => (hG.fz _ (hG.rd i hi b hx)).1
   let o₁ : Nat → Nat := fun b => if b < c.w.heap.size then c.o b else i + 1
   have hag : Agr c.w.heap.size c.o o₁ := fun b hb => by simp [o₁, hb]
   have hnew : ∀ b, c.w.heap.size ≤ b → b < w'.heap.size → o₁ b = i + 1 := fun b h1 _ => by
     have : ¬ b < c.w.heap.size := by omega
     simp [o₁, this]
   have hD := (h o₁ hag).1
   have hgoo := fun o' ha => (h o' ha).2
   have hwr : ∀ b x, b < c.w.heap.size → writK (ownK o₁ i) (c.D i).kg.Got b x → c.o b = i + 1 ∨ (c.D i).kg.Got b x := fun b x hb hx => hx.imp (fun e => by unfold ownK at e; rw [hag b hb] at e; exact e) id
   have hwgw : ∀ x, ¬ writK (ownK o₁ i) (c.D i).kg.Got Wg x := fun x hx => by
     rcases hwr _ _ hG.wg.1 hx with e | e
     · rw [hG.wg.2.1] at e; omega
     · exact (hG.got i hi _ _ e).2.2.1 rfl
   have hchw : ∀ y, c.cl y ≠ none → ∀ x, ¬ writK (ownK o₁ i) (c.D i).kg.Got y x := fun y hy x hx => by
     have hc := hG.ch y hy
     rcases hwr _ _ hc.1 hx with e | e
     · omega
     · exact (hG.got i hi _ _ e).2.2.2 hy
   have hMR : MR ty Wg (own0 c.o) c.Given c.w w' := hD.rel (fun b x hb hk hx => by
     rcases hwr _ _ hb hx with e | e
     · have := hk.1; unfold own0 at this; omega
     · exact hk.2 (hG.got i hi _ _ e).1) hG.wg.1 hwgw
   have hst := evOK_still hD.evs
   refine kidStep hN hb hI hi (x := ⟨(c.D i).s, (c.D i).kg, 8, m + 2, 0⟩) (o₁ := o₁) (st' := c.st) (sm' := c.sm) hg hgo hag hnew hMR (fun k hk hki => hD.rel (fun b x hb hkk hx => ?_) hG.wg.1 hwgw)
     (.run fun o' ha => hgoo o' (hag.of hD.size ha) fun b h1 h2 => by unfold ownK; rw [ha b h2]; exact hnew b h1 h2) rfl rfl ?_ ?_ (fun y b hy => ?_) ?_ ?_ (fun e => by simp at e) (fun _ => by simp) (.inr ⟨h8.symm, by simp [hf]⟩)
   · -- another child's share
     rcases hwr _ _ hb hx with e | e
     · rcases hkk with e' | e' | e'
       · unfold ownK at e'; omega
       · have := (hG.given _ _ (hG.got k hk _ _ e').1).2; omega
       · have := (hG.fz _ (hG.rd k hk _ e')).2.1; omega
     · have hgv := hG.got i hi _ _ e
       rcases hkk with e' | e' | e'
       · have := (hG.given _ _ hgv.1).2; unfold ownK at e'; omega
       · exact hG.apart i k hi hk (Ne.symm hki) _ _ e e'
       · exact (hG.fz _ (hG.rd k hk _ e')).2.2 _ hgv.1
   · exact (hI.tr.agr hag).appK (Gh.grow hG hag (Nat.le_refl _) fun b h1 h2 => by omega) hD.size hD.kind (fun _ => Nc.lt) hi g_ofEvents (okK_of hgotlt hrdlt hnew hD.evs) (hst.2 _ _ _)
   · rw [hd]; exact deafBehind_still hst.1 0
   · obtain ⟨k, hk⟩ := hI.chan y b hy
     exact ⟨k, (hD.blk y (hG.ch y (by rw [hy]; simp)).1 (hchw y (by rw [hy]; simp))).trans hk⟩
   · exact hI.wg.of_block (hD.blk Wg hG.wg.1 hwgw)
   · intro tag' ht _
     rw [stage_same h8.symm]
     exact hI.mode.retag ht
 | _ => rw [hgo] at h0; exact h0.elim
end
end Go.Proofs.Ytblpmdolclalnaa
