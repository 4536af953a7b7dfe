/- A net of goroutines: one starts children, sends, closes and waits; each child receives, sends, closes and says Done: what is asked of each, and of the protocol. Definitions; no condition. A walk of goroutine 0's that leaves certain blocks alone keeps what is known of them. Conditions: they are its own, not given away. What a plain step does, told of rely and guarantee: a .. -/
import Derived.Test.YtblpmdolclalnaaQ01
import Derived.Conc.Token
import Derived.Conc.AppendWalk
import Derived.ArgAppend
set_option maxHeartbeats 16000000
set_option linter.unusedSimpArgs false
set_option linter.unusedVariables false
namespace Go.Proofs.Ytblpmdolclalnaa
open Go.Conc
open Go.ConcR (WgAt KK stA smA rd wr mk DC0)
open Go.ConcN (WgLive sumTo upd)
inductive KAct where
 | recv (c : Nat)
 | send (c : Nat) (v : Value)
 | shut (c : Nat)
 | done
 | atom (b y : Nat)
inductive MAct where
 | hire
 | send (c : Nat) (v : Value)
 | shut (c : Nat)
 | wait
structure Net where
 S : Type
 M : Type
 act : S → KAct
 mact : M → MAct
 okGot : S → Value → Prop
 okEnd : S → Prop
 got : S → Value → S
 ended : S → S
 next : S → S
 cel : Nat → Nat → Prop
 val : Nat → (Nat → S) → Nat → Nat → Value
 okAt : S → Value → Prop
 put : S → Value → Option Value
 turn : S → Value → S
 succ : M → M → Prop
 zero : S → Value
 shape : S → CommShape
 mzero : M → Value
 hireS : M → S
 hireGive : M → Cells
 hireRd : M → Nat → Prop
 hireChs : M → List Nat
 gift : Value → Cells
 msg : Value → World → Prop
 Fin : S → World → Prop
 muS : S → Nat
 muM : M → Nat
 I : M → Nat → (Nat → S) → (Nat → Option Bool) → Prop
 fuel : Nat
 Kid : (Nat → Prop) → S → Cells → (Nat → Prop) → Goroutine → World → Prop
 Main : (Nat → Prop) → M → Cells → (Nat → Prop) → Goroutine → World → Prop
 Anch : (Nat → Prop) → M → Cells → (Nat → Prop) → Goroutine → World → Prop
 After : M → Goroutine → World → Prop
def Net.AB (N : Net) (b : Nat) : Prop := ∃ y, N.cel b y
def atomW (w : World) (b y : Nat) : Option Value → World
 | none => w
 | some v => w.setCell ⟨b, y, none⟩ v
def atomE (b y : Nat) : Option Value → Array Event
 | none => #[⟨.cell ⟨b, y, none⟩, false, true⟩]
 | some _ => #[⟨.cell ⟨b, y, none⟩, false, true⟩, ⟨.cell ⟨b, y, none⟩, true, true⟩]
def keepK (own : Nat → Prop) (Got : Cells) (Rd : Nat → Prop) : Cells := fun b x => own b ∨ Got b x ∨ Rd b
def writK (own : Nat → Prop) (Got : Cells) : Cells := fun b x => own b ∨ Got b x
def keepM (own : Nat → Prop) (Given : Cells) : Cells := fun b x => own b ∧ ¬ Given b x
def writM (own : Nat → Prop) (Given : Cells) (Fz : Nat → Prop) : Cells := fun b x => own b ∧ ¬ Given b x ∧ ¬ Fz b
def bare (g : Goroutine) : Goroutine := { g with status := .running, offers := none }
section
variable (P : Program) (ty : TypeId) (Wg : Nat)
def RL (w w₁ : World) : Prop := WgLive ty Wg w → WgLive ty Wg w₁
/-! ### a child behind its release -/
def AtD4 (g : Goroutine) (w : World) : Prop :=
 g.status = .running ∧ mayWake P g = true ∧ (WgAt ty Wg w 0 0 → ∃ g', stepG P false g w = .go g' (w.setCell (smA Wg) (.int .u32 1)) (semEvents (smA Wg)) ∧ ∃ q, QuitsD P q 1 g')
def AtD3 (g : Goroutine) (w : World) : Prop :=
 g.status = .running ∧ (WgAt ty Wg w 1 0 → ∃ g', stepG P false g w = .go g' (w.setCell (stA Wg) (.int .u64 0)) #[wr (stA Wg)] ∧ ∃ m, Goes P false (RL ty Wg) DC0 (AtD4 P ty Wg) m g' (w.setCell (stA Wg) (.int .u64 0)))
def AtD2 (g : Goroutine) (w : World) : Prop :=
 g.status = .running ∧ (WgAt ty Wg w 1 0 → ∃ g', stepG P false g w = .go g' w #[rd (stA Wg)] ∧ ∃ m, Goes P false (RL ty Wg) DC0 (AtD3 P ty Wg) m g' w)
def AtD1 (g : Goroutine) (w : World) : Prop :=
 g.status = .running ∧ ∀ v wt : Nat, wt ≤ 1 → v < 2147483647 → WgAt ty Wg w ((v + 1) * KK + wt) 0 →
   ∃ g', stepG P false g w = .go g' (w.setCell (stA Wg) (.int .u64 (v * KK + wt))) #[rd (stA Wg), wr (stA Wg)] ∧
     ((v = 0 ∧ wt = 1) → ∃ m, Goes P false (RL ty Wg) DC0 (AtD2 P ty Wg) m g' (w.setCell (stA Wg) (.int .u64 (v * KK + wt)))) ∧ (¬ (v = 0 ∧ wt = 1) → ∃ q, QuitsD P q 1 g')
def AtK1 (g : Goroutine) (w : World) : Prop :=
 g.status = .running ∧ ∃ g', stepG P false g w = .go g' w #[mk .disable] ∧ ∃ m, Goes P false (RL ty Wg) DC0 (AtD1 P ty Wg) m g' w
variable (N : Net)
/-! ### a child -/
def KR (own : Nat → Prop) (Got : Cells) (Rd : Nat → Prop) : World → World → Prop := Rel ty Wg (keepK own Got Rd)
def KD (own : Nat → Prop) (Got : Cells) (Rd : Nat → Prop) : World → World → Array Event → Prop := Gua false Wg (writK own Got) (keepK own Got Rd)
def KRun (own : Nat → Prop) (s : N.S) (Got : Cells) (Rd : Nat → Prop) (g : Goroutine) (w : World) : Prop :=
 Goo P false own (KR ty Wg own Got Rd) (KD Wg own Got Rd) (N.Kid own s Got Rd) N.fuel g w
def Await (own : Nat → Prop) (s : N.S) (Got : Cells) (Rd : Nat → Prop) (c : Nat) (g : Goroutine) (w : World) : Prop :=
 (∀ v w₁, KR ty Wg own Got Rd w w₁ → N.okGot s v → N.msg v w₁ → (∀ b x, N.gift v b x → ¬ Got b x ∧ ¬ Rd b) → KRun P ty Wg N own (N.got s v) (fun b x => Got b x ∨ N.gift v b x) Rd (g.finishComm P #[rcase c (N.zero s)] (N.shape s) 0 v true) w₁) ∧
 (N.okEnd s → ∀ w₁, KR ty Wg own Got Rd w w₁ → KRun P ty Wg N own (N.ended s) Got Rd (g.finishComm P #[rcase c (N.zero s)] (N.shape s) 0 (N.zero s) false) w₁)
def Offer (own : Nat → Prop) (s : N.S) (Got : Cells) (Rd : Nat → Prop) (c : Nat) (v : Value) (g : Goroutine) (w : World) : Prop :=
 (∀ b x, ¬ N.gift v b x) ∧ ∀ w₁, KR ty Wg own Got Rd w w₁ → N.msg v w₁ ∧ KRun P ty Wg N own (N.next s) Got Rd (g.finishComm P #[scase c v (N.zero s)] .send 0 undef false) w₁
def KStop (own : Nat → Prop) (s : N.S) (Got : Cells) (Rd : Nat → Prop) (g : Goroutine) (w : World) : Prop :=
 g.status = .running ∧ match N.act s with
 | .recv c => stepG P false g w = .comm (bare g) #[rcase c (N.zero s)] true (N.shape s) w #[] ∧ Await P ty Wg N own s Got Rd c (bare g) w
 | .send c v => stepG P false g w = .comm (bare g) #[scase c v (N.zero s)] true .send w #[] ∧ Offer P ty Wg N own s Got Rd c v (bare g) w
 | .shut c => mayWake P g = true ∧ ∀ k, w.heap[c]? = some (.chan 0 #[] false k k false) → ∃ g', g'.status = .running ∧ stepG P false g w = .go g' (w.setChan c 0 #[] true k k false) (closeEvents c) ∧
     KRun P ty Wg N own (N.next s) Got Rd g' (w.setChan c 0 #[] true k k false)
 | .atom b y => (∀ x, ¬ keepK own Got Rd b x) → b ≠ Wg → ∀ v, N.okAt s v → w.cell? ⟨b, y, none⟩ = some v → ∃ g', stepG P false g w = .go g' (atomW w b y (N.put s v)) (atomE b y (N.put s v)) ∧ KRun P ty Wg N own (N.turn s v) Got Rd g' (atomW w b y (N.put s v))
 | .done => (∀ w₁, KR ty Wg own Got Rd w w₁ → N.Fin s w₁) ∧ ∃ g', stepG P false g w = .go g' w #[mk (.releaseMerge (stA Wg))] ∧ ∃ m, Goes P false (RL ty Wg) DC0 (AtK1 P ty Wg) m g' w
/-! ### goroutine 0 -/
def MR (own : Nat → Prop) (Given : Cells) : World → World → Prop := Rel ty Wg (keepM own Given)
def MD (own : Nat → Prop) (Given : Cells) (Fz : Nat → Prop) : World → World → Array Event → Prop := Gua true Wg (writM own Given Fz) (keepM own Given)
def MGoo (own : Nat → Prop) (Given : Cells) (Fz : Nat → Prop) (Stop : Goroutine → World → Prop) (n : Nat) (g : Goroutine) (w : World) : Prop := Goo P true own (MR ty Wg own Given) (MD Wg own Given Fz) Stop n g w
def MRun (own : Nat → Prop) (Q : N.M → Prop) (Given : Cells) (Fz : Nat → Prop) (g : Goroutine) (w : World) : Prop :=
 MGoo P ty Wg own Given Fz (fun g w => ∃ m, Q m ∧ N.Main own m Given Fz g w) N.fuel g w
section
variable (own : Nat → Prop) (m : N.M) (Given : Cells) (Fz : Nat → Prop)
def AtGo (g : Goroutine) (w : World) : Prop :=
 g.status = .running ∧ ∃ g' child, stepG P true g w = .spawn g' child w #[] ∧
   (∀ b x, N.hireGive m b x → b < w.heap.size ∧ own b ∧ ¬ Given b x ∧ ¬ Fz b ∧ b ∉ N.hireChs m) ∧
   (∀ b, N.hireRd m b → b < w.heap.size ∧ own b ∧ (∀ x, ¬ Given b x ∧ ¬ N.hireGive m b x) ∧ b ∉ N.hireChs m) ∧
   (∀ c, c ∈ N.hireChs m → own c ∧ (∀ x, ¬ Given c x) ∧ ¬ Fz c ∧ w.heap[c]? = some (.chan 0 #[] false 0 0 false)) ∧
   (∀ kown, KRun P ty Wg N kown (N.hireS m) (N.hireGive m) (N.hireRd m) child w) ∧
   MRun P ty Wg N own (N.succ m) (fun b x => Given b x ∨ N.hireGive m b x ∨ b ∈ N.hireChs m) (fun b => Fz b ∨ N.hireRd m b) g' w
def AtKe (g : Goroutine) (w : World) : Prop :=
 g.status = .running ∧ ∃ g', stepG P true g w = .go g' w #[mk .enable] ∧ MGoo P ty Wg own Given Fz (AtGo P ty Wg N own m Given Fz) N.fuel g' w
def AtA1 (g : Goroutine) (w : World) : Prop :=
 g.status = .running ∧ ∀ v : Nat, v < 2147483647 → WgAt ty Wg w (v * KK) 0 →
   ∃ g', stepG P true g w = .go g' (w.setCell (stA Wg) (.int .u64 ((v + 1) * KK))) #[rd (stA Wg), wr (stA Wg)] ∧ MGoo P ty Wg own Given Fz (AtKe P ty Wg N own m Given Fz) N.fuel g' (w.setCell (stA Wg) (.int .u64 ((v + 1) * KK)))
def AtKd (g : Goroutine) (w : World) : Prop :=
 g.status = .running ∧ ∃ g', stepG P true g w = .go g' w #[mk .disable] ∧ MGoo P ty Wg own Given Fz (AtA1 P ty Wg N own m Given Fz) N.fuel g' w
def AtAcq (g : Goroutine) (w : World) : Prop :=
 g.status = .running ∧ ∃ g', stepG P true g w = .go g' w #[mk (.acquire (stA Wg))] ∧ N.After m g' w
def AtKw (g : Goroutine) (w : World) : Prop :=
 g.status = .running ∧ ∃ g', stepG P true g w = .go g' w #[mk .enable] ∧ MGoo P ty Wg own Given Fz (AtAcq P Wg N m) N.fuel g' w
def AtW4 (g : Goroutine) (w : World) : Prop :=
 g.status = .running ∧ (WgAt ty Wg w 0 0 → ∃ g', stepG P true g w = .go g' w #[rd (stA Wg)] ∧ MGoo P ty Wg own Given Fz (AtKw P ty Wg N own m Given Fz) N.fuel g' w)
def AtW3 (g : Goroutine) (w : World) : Prop :=
 g.status = .running ∧ g.offers = none ∧ ((∃ st, WgAt ty Wg w st 0) → stepG P true g w = .go { g with status := .blocked } w #[]) ∧
   (WgAt ty Wg w 0 1 → ∃ g', stepG P true g w = .go g' (w.setCell (smA Wg) (.int .u32 0)) (semEvents (smA Wg)) ∧ MGoo P ty Wg own Given Fz (AtW4 P ty Wg N own m Given Fz) N.fuel g' (w.setCell (smA Wg) (.int .u32 0)))
def AtW2 (vs : Nat) (g : Goroutine) (w : World) : Prop :=
 g.status = .running ∧ ∀ v : Nat, v < 2147483648 → WgAt ty Wg w (v * KK) 0 →
   (v = vs → ∃ g', stepG P true g w = .go g' (w.setCell (stA Wg) (.int .u64 (v * KK + 1))) #[rd (stA Wg), wr (stA Wg)] ∧ MGoo P ty Wg own Given Fz (AtW3 P ty Wg N own m Given Fz) N.fuel g' (w.setCell (stA Wg) (.int .u64 (v * KK + 1)))) ∧
   (v ≠ vs → ∃ g', stepG P true g w = .go g' w #[rd (stA Wg)] ∧ MGoo P ty Wg own Given Fz (N.Anch own m Given Fz) N.fuel g' w)
def AtW1 (g : Goroutine) (w : World) : Prop :=
 g.status = .running ∧ ∀ v : Nat, v < 2147483648 → WgAt ty Wg w (v * KK) 0 → ∃ g', stepG P true g w = .go g' w #[rd (stA Wg)] ∧
   (v = 0 → MGoo P ty Wg own Given Fz (AtKw P ty Wg N own m Given Fz) N.fuel g' w) ∧ (v ≠ 0 → MGoo P ty Wg own Given Fz (AtW2 P ty Wg N own m Given Fz v) N.fuel g' w)
def MOffer (c : Nat) (v : Value) (g : Goroutine) (w : World) : Prop :=
 (∀ b x, N.gift v b x → b < w.heap.size ∧ own b ∧ ¬ Given b x ∧ ¬ Fz b) ∧ (∀ w₁, MR ty Wg own Given w w₁ → N.msg v w₁) ∧
 ∀ w₁, MR ty Wg own Given w w₁ → MRun P ty Wg N own (N.succ m) (fun b x => Given b x ∨ N.gift v b x) Fz (g.finishComm P #[scase c v (N.mzero m)] .send 0 undef false) w₁
def MStop (g : Goroutine) (w : World) : Prop :=
 g.status = .running ∧ match N.mact m with
 | .hire => AtKd P ty Wg N own m Given Fz g w
 | .send c v => stepG P true g w = .comm (bare g) #[scase c v (N.mzero m)] true .send w #[] ∧ MOffer P ty Wg N own m Given Fz c v (bare g) w
 | .shut c => mayWake P g = true ∧ ∀ k, w.heap[c]? = some (.chan 0 #[] false k k false) → ∃ g', g'.status = .running ∧ stepG P true g w = .go g' (w.setChan c 0 #[] true k k false) (closeEvents c) ∧
     MRun P ty Wg N own (N.succ m) Given Fz g' (w.setChan c 0 #[] true k k false)
 | .wait => ∃ g', stepG P true g w = .go g' w #[mk .disable] ∧ MGoo P ty Wg own Given Fz (N.Anch own m Given Fz) N.fuel g' w
end
structure NetOK : Prop where
 kid : ∀ own s Got Rd g w, N.Kid own s Got Rd g w → KStop P ty Wg N own s Got Rd g w
 main : ∀ own m Given Fz g w, N.Main own m Given Fz g w → MStop P ty Wg N own m Given Fz g w
 anch : ∀ own m Given Fz g w, N.Anch own m Given Fz g w → g.status = .running ∧ MGoo P ty Wg own Given Fz (AtW1 P ty Wg N own m Given Fz) N.fuel g w
 uniq : ∀ own own' m m' Given Fz g w w' j f cl, N.I m j f cl → N.I m' j f cl → N.Main own m Given Fz g w → N.Main own' m' Given Fz g w' → m = m'
 hire : ∀ m j f cl, N.I m j f cl → N.mact m = .hire → j < 2147483646 ∧ N.muS (N.hireS m) < N.muM m ∧ (∀ i, i < j → N.act (f i) ≠ .done) ∧ (∀ m', N.succ m m' → N.I m' (j + 1) (upd f j (N.hireS m)) (fun c => if c ∈ N.hireChs m then some false else cl c) ∧ N.muM m' + N.muS (N.hireS m) < N.muM m)
 many : ∀ m j f cl, N.I m j f cl → j < 2147483647
 mmeet : ∀ m j f cl c v i, N.I m j f cl → N.mact m = .send c v → i < j → N.act (f i) = .recv c → N.okGot (f i) v ∧ 0 < N.muM m ∧ (∀ m', N.succ m m' → N.I m' j (upd f i (N.got (f i) v)) cl ∧ N.muM m' < N.muM m)
 kmeet : ∀ m j f cl c v i k, N.I m j f cl → i < j → k < j → i ≠ k → N.act (f i) = .send c v → N.act (f k) = .recv c → N.okGot (f k) v ∧ N.I m j (upd (upd f i (N.next (f i))) k (N.got (f k) v)) cl
 ends : ∀ m j f cl c i, N.I m j f cl → i < j → N.act (f i) = .recv c → cl c = some true → N.okEnd (f i) ∧ N.I m j (upd f i (N.ended (f i))) cl
 mshut : ∀ m j f cl c, N.I m j f cl → N.mact m = .shut c → cl c = some false ∧ (∀ i v, i < j → N.act (f i) ≠ .send c v) ∧ 0 < N.muM m ∧ (∀ m', N.succ m m' → N.I m' j f (upd cl c (some true)) ∧ N.muM m' < N.muM m)
 kshut : ∀ m j f cl c i, N.I m j f cl → i < j → N.act (f i) = .shut c → cl c = some false ∧ (∀ k v, k < j → N.act (f k) ≠ .send c v) ∧ (∀ v, N.mact m ≠ .send c v) ∧ N.I m j (upd f i (N.next (f i))) (upd cl c (some true))
 chans : ∀ m j f cl, N.I m j f cl → (∀ c v, N.mact m = .send c v → cl c = some false) ∧ ∀ i, i < j → (∀ c, N.act (f i) = .recv c → cl c ≠ none) ∧ ∀ c v, N.act (f i) = .send c v → cl c = some false
 prog : ∀ m j f cl, N.I m j f cl → (∀ i, i < j → (∃ c, N.act (f i) = .recv c ∧ cl c = some false) ∨ (∃ c v, N.act (f i) = .send c v) ∨ N.act (f i) = .done) → ((∃ c v, N.mact m = .send c v) ∨ N.mact m = .wait) →
   (∀ i k c v, i < j → k < j → N.act (f i) = .recv c → N.act (f k) ≠ .send c v) → (∀ i c v, i < j → N.act (f i) = .recv c → N.mact m ≠ .send c v) → N.mact m = .wait ∧ ∀ i, i < j → N.act (f i) = .done
 some : ∀ m, N.mact m ≠ .wait → ∃ m', N.succ m m'
 less : ∀ s v, N.okGot s v → N.muS (N.got s v) < N.muS s
 lessE : ∀ s, N.okEnd s → N.muS (N.ended s) < N.muS s
 lessN : ∀ s, (∀ c, N.act s ≠ .recv c) → (∀ b y, N.act s ≠ .atom b y) → N.act s ≠ .done → N.muS (N.next s) < N.muS s
 atom : ∀ m j f cl b y i, N.I m j f cl → i < j → N.act (f i) = .atom b y → N.cel b y ∧ N.okAt (f i) (N.val j f b y) ∧ N.I m j (upd f i (N.turn (f i) (N.val j f b y))) cl ∧ N.muS (N.turn (f i) (N.val j f b y)) < N.muS (f i) ∧
   ∀ b' y', N.cel b' y' → N.val j (upd f i (N.turn (f i) (N.val j f b y))) b' y' = if b' = b ∧ y' = y then (N.put (f i) (N.val j f b y)).getD (N.val j f b y) else N.val j f b' y'
 vHire : ∀ m j f cl, N.I m j f cl → N.mact m = .hire → ∀ b y, N.cel b y → N.val (j + 1) (upd f j (N.hireS m)) b y = N.val j f b y
 vGot : ∀ j f i v, i < j → N.okGot (f i) v → ∀ b y, N.cel b y → N.val j (upd f i (N.got (f i) v)) b y = N.val j f b y
 vEnd : ∀ j f i, i < j → N.okEnd (f i) → ∀ b y, N.cel b y → N.val j (upd f i (N.ended (f i))) b y = N.val j f b y
 vNext : ∀ j f i, i < j → (∀ c, N.act (f i) ≠ .recv c) → (∀ b y, N.act (f i) ≠ .atom b y) → N.act (f i) ≠ .done → ∀ b y, N.cel b y → N.val j (upd f i (N.next (f i))) b y = N.val j f b y
end
end Go.Proofs.Ytblpmdolclalnaa
namespace Go.Proofs.Ytblpmdolclalnaa
open Go.Conc
theorem EvOK.more {said : Bool} {Wg n n' : Nat} {Writ Writ' Read : Cells} {NC : Nat → Prop} {e : Event} (h : EvOK said Wg Writ Read n n' NC e) (hW : ∀ b x, Writ b x → Writ' b x) : EvOK said Wg Writ' Read n n' NC e := by
 rcases h with ⟨a, wr, sy, h1, h2, h3, h4⟩ | h | h | h
 · exact .inl ⟨a, wr, sy, h1, h2, h3, h4.imp id fun h => h.imp (hW _ _) id⟩
 · exact .inr (.inl h)
 · exact .inr (.inr (.inl h))
 · exact .inr (.inr (.inr h))
theorem Gua.more {said : Bool} {Wg : Nat} {Writ Writ' Read : Cells} {w w' : World} {es : Array Event} (h : Gua said Wg Writ Read w w' es) (hW : ∀ b x, Writ b x → Writ' b x) : Gua said Wg Writ' Read w w' es :=
 ⟨h.size, fun b hb hn => h.blk b hb fun o ho => hn o (hW _ _ ho), fun b o hb hn => h.cell b o hb fun ho => hn (hW _ _ ho), h.form, h.os, h.out, h.tape, h.kind, fun e he => (h.evs e he).more hW⟩
theorem Goo.frame {P : Program} {ty : TypeId} {Wg : Nat} {own : Nat → Prop} {Given : Cells} {Fz S : Nat → Prop} {V : World → Prop} {Stop : Goroutine → World → Prop} (hS : ∀ b, S b → own b ∧ ∀ x, ¬ Given b x)
   (hV : ∀ w w', V w → (∀ b, S b → w'.heap[b]? = w.heap[b]?) → V w') (hlt : ∀ w, V w → ∀ b, S b → b < w.heap.size) {n : Nat} {g : Goroutine} {w : World}
   (h : MGoo P ty Wg own Given (fun b => Fz b ∨ S b) Stop n g w) (v : V w) : MGoo P ty Wg own Given Fz (fun g w => Stop g w ∧ V w) n g w := by
 have rel : ∀ {w w₁ : World}, V w → MR ty Wg own Given w w₁ → V w₁ := fun {w w₁} v r => hV w w₁ v fun b hb => r.blk b (hlt w v b hb) fun x => ⟨(hS b hb).1, (hS b hb).2 x⟩
 induction n generalizing g w with
 | zero => exact fun w₁ r => ⟨h w₁ r, rel v r⟩
 | succ n ih =>
   rcases h with h | ⟨hr, h⟩
   · exact .inl fun w₁ r => ⟨h w₁ r, rel v r⟩
   · refine .inr ⟨hr, fun w₁ r => goes_mono (h w₁ r) fun g' w' es x => ⟨x.1.more fun b y hw => ⟨hw.1, hw.2.1, fun hf => hw.2.2 (.inl hf)⟩, fun hn => ih (x.2 hn) ?_⟩⟩
     exact hV w₁ w' (rel v r) fun b hb => x.1.blk b (hlt w₁ (rel v r) b hb) fun y hw => hw.2.2 (.inr hb)
section
variable {P : Program} {said : Bool} {Wg : Nat} {Writ Read : Cells} {w w' : World} {es : Array Event}
theorem gua_read (h : ∀ e ∈ es, ∃ a : Addr, e = ⟨.cell a, false, false⟩ ∧ a.block < w.heap.size ∧ (Writ a.block a.off ∨ Read a.block a.off)) : Gua said Wg Writ Read w w es :=
 ⟨Nat.le_refl _, fun _ _ _ => rfl, fun _ _ _ _ => rfl, fun _ c _ _ h => ⟨c, h, rfl⟩, rfl, rfl, rfl, fun _ _ => Iff.rfl, fun e he => by
   obtain ⟨a, rfl, h1, h2⟩ := h e he
   exact .inl ⟨a, false, false, rfl, fun x => (by cases x), h1, .inr (h2.imp id fun x => ⟨rfl, x⟩)⟩⟩
theorem gua_but {S : Nat → Prop} (hS : ∀ b, S b → b < w.heap.size → ∀ o, Writ b o) (hsz : w.heap.size ≤ w'.heap.size) (hold : ∀ b, b < w.heap.size → ¬ S b → w'.heap[b]? = w.heap[b]?)
   (hf : ∀ b, b < w.heap.size → S b → ∃ (c c' : Array Value) (e : TypeId) (f : Nat × Nat), w.heap[b]? = some (Obj.cells c e f) ∧ w'.heap[b]? = some (Obj.cells c' e f) ∧ c'.size = c.size)
   (hos : w'.os = w.os) (hout : w'.output = w.output) (ht : w'.tape = w.tape) (he : ∀ e ∈ es, EvOK said Wg Writ Read w.heap.size w'.heap.size (Nc w') e) : Gua said Wg Writ Read w w' es := by
 have same : ∀ b, b < w.heap.size → ∀ o, ¬ Writ b o → w'.heap[b]? = w.heap[b]? := fun b hb o hw => hold b hb fun hs => hw (hS b hs hb o)
 refine ⟨hsz, fun b hb hw => same b hb 0 (hw 0), fun b o hb hw => cell?_eq (same b hb o hw) o, fun b c e f h => ?_, hos, hout, ht, fun b hb => not_congr ?_, he⟩
 · have hb := (Array.getElem?_eq_some_iff.1 h).1
   by_cases hs : S b
   · obtain ⟨c0, c', e0, f0, h1, h2, h3⟩ := hf b hb hs
     rw [h1] at h
     cases h
     exact ⟨c', h2, h3⟩
   · exact ⟨c, (hold b hb hs).trans h, rfl⟩
 · by_cases hs : S b
   · obtain ⟨c0, c', e0, f0, h1, h2, _⟩ := hf b hb hs
     unfold CS
     rw [h1, h2]
     simp
   · exact CS.eq (hold b hb hs)
theorem gua_write {a : Addr} {v : Value} {c : Array Value} {e : TypeId} {f : Nat × Nat} (ha : a.spot = none) (hc : w.heap[a.block]? = some (.cells c e f)) (hw : Writ a.block a.off) (h : ∀ e ∈ es, e = ⟨.cell a, true, false⟩) :
   Gua said Wg Writ Read w (w.setCell a v) es := by
 have hlt := (Array.getElem?_eq_some_iff.1 hc).1
 have ne : ∀ b, b ≠ a.block → (w.setCell a v).heap[b]? = w.heap[b]? := fun b hb => by
   unfold World.setCell
   simp only [Array.getElem?_modify]
   rw [if_neg (fun e => hb e.symm)]
 have at' : (w.setCell a v).heap[a.block]? = some (.cells (c.setIfInBounds a.off v) e f) := by
   unfold World.setCell
   simp [Array.getElem?_modify, hc, ha]
 refine ⟨by simp [World.setCell], fun b hb hn => ne b fun e => hn a.off (e ▸ hw), fun b o hb hn => ?_, fun b c' e' f' h' => ?_, rfl, rfl, rfl, fun b hb => not_congr ?_, fun ev hev => ?_⟩
 · by_cases hbb : b = a.block
   · subst hbb
     have ho : o ≠ a.off := fun e => hn (e ▸ hw)
     simp [World.cell?, at', hc, Array.getElem?_setIfInBounds_ne (Ne.symm ho)]
   · exact cell?_eq (ne b hbb) o
 · by_cases hbb : b = a.block
   · subst hbb
     rw [hc] at h'
     cases h'
     exact ⟨_, at', by simp⟩
   · exact ⟨c', (ne b hbb).trans h', rfl⟩
 · by_cases hbb : b = a.block
   · subst hbb
     unfold CS
     rw [hc, at']
     simp
   · exact CS.eq (ne b hbb)
 · have := h ev hev
   subst this
   exact .inl ⟨a, true, false, rfl, fun x => (by cases x), by simpa [World.setCell] using hlt, .inr (.inl hw)⟩
structure OneT (P : Program) (t e : TypeId) : Prop where
 und : P.underlying t = some (.slice e)
 inf : ∃ i z, P.info? e = some i ∧ i.zero = some z ∧ i.size = 1 ∧ z.cells.size = 1 ∧ i.bytes ≤ 64
theorem append1 {t e ty : TypeId} (T : OneT P t e) {v : Value} {n : Nat} {xs : List Value} (hown : w.ownsRow 0 e 1 v n xs) {bx cx : Nat} {u : Value} (hu : w.cell? ⟨bx, 0, none⟩ = some u) (h1 : u.oneCell' = true) (hn : n + 1 ≤ 1000000)
   (hW : ∀ g, v.ownBlock = some g → g ≠ Wg ∧ ∀ o, Writ g o) (hR : bx ≠ Wg ∧ ∀ o, Writ bx o ∨ Read bx o) :
   ∃ v' w', (Builtin.append_ #[t, t] ty #[v, .slice (some ⟨bx, 0, none⟩) 1 cx]).run P w = .ok v' w' ∧ w'.ownsRow 0 e 1 v' (n + 1) (xs ++ [u]) ∧ w.grownBy w' v.ownBlock ∧ (∀ g, v'.ownBlock = some g → v.ownBlock = some g ∨ (w.heap.size ≤ g ∧ g < w'.heap.size)) ∧
     ∀ fn, Gua said Wg Writ Read w w' (seen P fn ((Builtin.append_ #[t, t] ty #[v, .slice (some ⟨bx, 0, none⟩) 1 cx]).events P w #[])) := by
 obtain ⟨i, z, hi, hz, hs, hzs, hby⟩ := T.inf
 have hnews : ∀ j y, [u][j]? = some y → w.cell? ((⟨bx, 0, none⟩ : Addr).add j) = some y := fun j y hj => by
   rcases j with _ | j
   · simp at hj; subst hj; exact hu
   · simp at hj
 have hbx : bx < w.heap.size := by
   unfold World.cell? at hu
   cases hh : w.heap[bx]? with
   | none => simp [hh] at hu
   | some x => exact (Array.getElem?_eq_some_iff.1 hh).1
 have h63 : n + 1 ≤ maxLen := by simp only [maxLen]; omega
 have hbytes : (n + 1) * i.bytes ≤ 140737488355328 := Nat.le_trans (Nat.mul_le_mul hn hby) (by omega)
 have hev := events_append_where (P := P) w 0 t ty e i z 1 i.bytes T.und hi hz hs rfl v n xs hown ⟨bx, 0, none⟩ 1 cx [u] (by simp) hnews (by simpa using h1) h63 hbytes
 have evs : ∀ (W : World), w.heap.size ≤ W.heap.size → ∀ fn, ∀ ev ∈ seen P fn ((Builtin.append_ #[t, t] ty #[v, .slice (some ⟨bx, 0, none⟩) 1 cx]).events P w #[]), EvOK said Wg Writ Read w.heap.size W.heap.size (Nc W) ev := fun W hW' fn ev hm => by
   rcases hev ev (mem_seen hm) with ⟨ad, hl, h⟩ | ⟨m, rfl, hmm⟩
   · obtain ⟨loc, wr, sy⟩ := ev
     simp only at hl h
     subst hl
     rcases h with ⟨rfl, hb⟩ | hb
     · refine .inl ⟨ad, false, sy, rfl, fun _ => by rw [hb]; exact hR.1, by rw [hb]; exact Nat.lt_of_lt_of_le hbx hW', .inr ?_⟩
       rw [hb]
       exact (hR.2 ad.off).imp id fun x => ⟨rfl, x⟩
     · have hg := hW ad.block hb.symm
       exact .inl ⟨ad, wr, sy, rfl, fun _ => hg.1, Nat.lt_of_lt_of_le (hown.lt _ hb.symm).2 hW', .inr (.inl (hg.2 _))⟩
   · rw [show m = .noRoom from hmm]
     exact .inr (.inr (.inr rfl))
 rcases hown.2 with ⟨hv, hn0⟩ | ⟨g, cap, cur, hv, _, hg, hnc, hcm, hcs, htake⟩
 · -- nothing there yet
   subst hv hn0
   have hx : xs = [] := List.length_eq_zero_iff.1 (by simpa using hown.1)
   subst hx
   obtain ⟨v', w', hr, ho, hgr, _⟩ := run_append_own (P := P) w w.heap.size t ty e i z 1 i.bytes T.und hi hz hs rfl hzs (by omega) (.slice none 0 0) 0 [] ⟨by simp, .inl ⟨rfl, rfl⟩⟩ ⟨bx, 0, none⟩ 1 cx [u] (by simp) hnews (by simpa using h1) h63 hbytes (Nat.le_refl _)
   refine ⟨v', w', hr, ⟨ho.1, ho.2.imp id fun ⟨g, cap, cur, a1, a2, a3⟩ => ⟨g, cap, cur, a1, Nat.zero_le _, a3⟩⟩, hgr, fun g hg => .inr (ho.lt g hg), fun fn => gua_but (S := fun _ => False) (fun _ h => h.elim) hgr.size (fun b hb _ => hgr.block b hb (by simp [Value.ownBlock])) (fun _ _ h => h.elim) hgr.os hgr.output hgr.tape (evs w' hgr.size fn)⟩
 · subst hv
   have hlt := (Array.getElem?_eq_some_iff.1 hg).1
   have hWg := hW g rfl
   by_cases hroom : n + 1 ≤ cap
   · have hr := run_append_room (P := P) w t ty e i T.und hi g n cap cur hg ⟨bx, 0, none⟩ 1 cx [u] (by simp [hs]) hnews (by simpa using h1) hroom (by simp [hs, hcs]; omega)
     simp only [hs, Nat.mul_one, List.length_singleton] at hr hcs htake
     have hset : ∀ r : Array Value, r.size = cur.size → (w.setRow g r).heap[g]? = some (.cells r e (0, 0)) ∧ (∀ b, b ≠ g → (w.setRow g r).heap[b]? = w.heap[b]?) ∧ (w.setRow g r).heap.size = w.heap.size := fun r _ => by
       refine ⟨by rw [setRow_heap w g _ _ _ _ hg], fun b hb => ?_, ?_⟩
       · unfold World.setRow; simp [Array.getElem?_modify, Ne.symm hb]
       · unfold World.setRow; simp
     have hrs : (cur.toList.take n ++ [u] ++ cur.toList.drop (n + 1)).toArray.size = cur.size := by simp [hcs]; omega
     obtain ⟨e1, e2, e3⟩ := hset _ hrs
     refine ⟨_, _, hr, ⟨by simp [hown.1], .inr ⟨g, cap, _, rfl, Nat.zero_le _, e1, hroom, hcm, by rw [hrs, hcs]; omega, ?_⟩⟩, ⟨rfl, rfl, rfl, by omega, fun k hk hne => e2 k (by simpa [Value.ownBlock] using hne)⟩, fun g' hg' => .inl hg', fun fn => ?_⟩
     · have hl : (cur.toList.take n).length = n := by rw [List.length_take]; simp [hcs]; omega
       rw [← htake]
       simp only [Nat.mul_one]
       rw [List.take_append_of_le_length (by simp [hl]), List.take_of_length_le (by simp [hl])]
     · exact gua_but (S := (· = g)) (fun b hb _ => hb ▸ hWg.2) (by omega) (fun b _ hb => e2 b hb) (fun b _ hb => by subst hb; exact ⟨_, _, _, _, hg, e1, hrs⟩) rfl rfl rfl (evs _ (by omega) fn)
   · obtain ⟨v', w', hr, ho, hgr⟩ := run_append_arg_grows (P := P) w t ty e i z 1 i.bytes T.und hi hz hs rfl hzs (by omega) ⟨g, 0, none⟩ n cap xs hown.1 (hown.cells rfl) ⟨bx, 0, none⟩ 1 cx [u] (by simp) hnews (by omega) h63 hbytes
     exact ⟨v', w', hr, ⟨ho.1, ho.2.imp id fun ⟨g, cap, cur, a1, a2, a3⟩ => ⟨g, cap, cur, a1, Nat.zero_le _, a3⟩⟩, ⟨hgr.os, hgr.tape, hgr.output, hgr.size, fun k hk _ => hgr.block k hk (by simp)⟩, fun g' hg' => .inr (ho.lt g' hg'), fun fn => gua_but (S := fun _ => False) (fun _ h => h.elim) hgr.size (fun b hb _ => hgr.block b hb (by simp)) (fun _ _ h => h.elim) hgr.os hgr.output hgr.tape (evs w' hgr.size fn)⟩
end
end Go.Proofs.Ytblpmdolclalnaa
namespace Go.Proofs.Ytblpmdolclalnaa
open Go.Conc
open Go.ConcN (upd upd_same upd_ne)
structure PP where
 nf : Nat
 K : Nat
 c0 : Nat
 n : Nat
 phi : Nat → Value → Value
 okV : Value → Prop
inductive KPh where
 | recv
 | send (v : Value)
 | shut
 | done
structure KS where
 kd : Nat
 cin : Nat
 cout : Nat
 env : List Nat
 ph : KPh
 got : List Value
inductive MS where
 | hire (p cin cout : Nat) (env : List Nat)
 | send (sent : List Value) (v : Value)
 | shut (sent : List Value)
 | wait (sent : List Value)
namespace PP
variable (pp : PP)
def act (s : KS) : KAct := match s.ph with | .recv => .recv s.cin | .send v => .send s.cout v | .shut => .shut s.cout | .done => .done
def mact : MS → MAct | .hire .. => .hire | .send _ v => .send pp.c0 v | .shut _ => .shut pp.c0 | .wait _ => .wait
def gotS (s : KS) (v : Value) : KS := { s with ph := if s.kd < pp.nf then .send (pp.phi s.kd v) else .recv, got := s.got ++ [v] }
def endS (s : KS) : KS := { s with ph := if s.kd < pp.nf then .shut else .done }
def nextS (s : KS) : KS := { s with ph := match s.ph with | .send _ => .recv | .shut => .done | x => x }
def okGot (s : KS) (v : Value) : Prop := pp.okV v ∧ s.got.length < pp.n ∧ s.ph = .recv
def okEnd (s : KS) : Prop := s.ph = .recv
def hireS : MS → KS
 | .hire p ci co e => ⟨p, ci, co, e, .recv, []⟩
 | _ => ⟨0, 0, 0, [], .recv, []⟩
def hireChs : MS → List Nat
 | .hire p _ co _ => (if p = 0 then [pp.c0] else []) ++ (if p < pp.nf then [co] else [])
 | _ => []
def sent : MS → List Value | .hire .. => [] | .send l _ => l | .shut l => l | .wait l => l
def begun (l : List Value) (m : MS) : Prop := (∃ v, m = .send l v ∧ pp.okV v ∧ l.length < pp.n) ∨ (m = .shut l)
def succ : MS → MS → Prop
 | .hire p _ co _, m' => (p + 1 < pp.nf + pp.K ∧ ∃ co' e', m' = .hire (p + 1) (if p < pp.nf then co else pp.c0) co' e' ∧ (p + 1 < pp.nf → co < co')) ∨ (pp.nf + pp.K ≤ p + 1 ∧ pp.begun [] m')
 | .send l v, m' => pp.begun (l ++ [v]) m'
 | .shut l, m' => m' = .wait l
 | .wait _, _ => False
def wgt : KPh → Nat | .send _ => 3 | .recv => 2 | .shut => 1 | .done => 0
def muS (s : KS) : Nat := 4 * (pp.n - s.got.length) + wgt s.ph
def muM : MS → Nat
 | .hire p _ _ _ => (pp.nf + pp.K - p) * (4 * pp.n + 4) + (pp.n + 4)
 | .send l _ => pp.n - l.length + 3
 | .shut _ => 2
 | .wait _ => 1
def chIn (f : Nat → KS) : Nat → Nat | 0 => pp.c0 | s + 1 => (f s).cout
def outs (i : Nat) (s : KS) : List Value := match s.ph with | .send _ => (s.got.map (pp.phi i)).dropLast | _ => s.got.map (pp.phi i)
def stream (l : List Value) (f : Nat → KS) : Nat → List Value | 0 => l | s + 1 => pp.outs s (f s)
def isDone : KPh → Bool | .done => true | _ => false
def isWait : MS → Bool | .wait _ => true | _ => false
structure Inv (m : MS) (j : Nat) (f : Nat → KS) (cl : Nat → Option Bool) : Prop where
 cnt : ∀ p ci co e, m = .hire p ci co e → p = j ∧ p < pp.nf + pp.K ∧ ci = pp.chIn f (min p pp.nf) ∧ (p < pp.nf → ci < co)
 all : (∀ p ci co e, m ≠ .hire p ci co e) → j = pp.nf + pp.K
 le : j ≤ pp.nf + pp.K
 idle : ∀ p ci co e, m = .hire p ci co e → ∀ i, i < j → (f i).ph = .recv ∧ (f i).got = []
 kd : ∀ i, i < j → (f i).kd = i
 ins : ∀ i, i < j → (f i).cin = pp.chIn f (min i pp.nf)
 up : ∀ i, i < j → i < pp.nf → pp.chIn f i < pp.chIn f (i + 1)
 cz : cl pp.c0 = if j = 0 then none else some (isWait m)
 cs : ∀ i, i < j → i < pp.nf → cl (f i).cout = some (isDone (f i).ph)
 cn : ∀ c, c ≠ pp.c0 → (∀ i, i < j → i < pp.nf → c ≠ (f i).cout) → cl c = none
 shutd : ∀ i, i < j → ((f i).ph = .shut ∨ (f i).ph = .done) → cl (f i).cin = some true
 sink : ∀ i, i < j → pp.nf ≤ i → (f i).ph = .recv ∨ (f i).ph = .done
 snd : ∀ i v, i < j → (f i).ph = .send v → ∃ l x, (f i).got = l ++ [x] ∧ v = pp.phi i x
 len : (sent m).length ≤ pp.n
 msg : ∀ l v, m = .send l v → l.length < pp.n ∧ pp.okV v
 gots : ∀ i, i < j → (f i).got.length ≤ (sent m).length ∧ ∀ x ∈ (f i).got, pp.okV x
 data1 : ∀ i, i < j → (i < pp.nf ∨ pp.K = 1) → (f i).got = pp.stream (sent m) f (min i pp.nf)
 data2 : pp.nf = 0 → ∀ v, v ∈ sent m ↔ ∃ i, i < j ∧ v ∈ (f i).got
variable {pp} {m : MS} {j : Nat} {f f' : Nat → KS} {cl : Nat → Option Bool}
theorem chIn_congr (h : ∀ i, (f' i).cout = (f i).cout) (s : Nat) : pp.chIn f' s = pp.chIn f s := by cases s <;> simp [chIn, h]
theorem Inv.mono (h : pp.Inv m j f cl) : ∀ {a b : Nat}, a < b → b ≤ j → b ≤ pp.nf → pp.chIn f a < pp.chIn f b := by
 intro a b hab
 induction hab with
 | refl => exact fun h1 h2 => h.up a (by omega) (by omega)
 | step _ ih => exact fun h1 h2 => Nat.lt_trans (ih (by omega) (by omega)) (h.up _ (by omega) (by omega))
theorem Inv.inj (h : pp.Inv m j f cl) {a b : Nat} (ha : a ≤ j) (hb : b ≤ j) (ha' : a ≤ pp.nf) (hb' : b ≤ pp.nf) (e : pp.chIn f a = pp.chIn f b) : a = b := by
 rcases Nat.lt_trichotomy a b with x | x | x
 · exact absurd e (Nat.ne_of_lt (h.mono x hb hb'))
 · exact x
 · exact absurd e.symm (Nat.ne_of_lt (h.mono x ha ha'))
theorem act_recv {s : KS} {c : Nat} (h : act s = .recv c) : s.ph = .recv ∧ s.cin = c := by
 unfold act at h; split at h <;> simp_all
theorem act_send {s : KS} {c : Nat} {v : Value} (h : act s = .send c v) : s.ph = .send v ∧ s.cout = c := by
 unfold act at h; split at h <;> simp_all
theorem act_shut {s : KS} {c : Nat} (h : act s = .shut c) : s.ph = .shut ∧ s.cout = c := by
 unfold act at h; split at h <;> simp_all
theorem act_done {s : KS} (h : act s = .done) : s.ph = .done := by
 unfold act at h; split at h <;> simp_all
theorem mact_send {c : Nat} {v : Value} (h : pp.mact m = .send c v) : c = pp.c0 ∧ ∃ l, m = .send l v := by
 cases m <;> simp_all [mact]
theorem mact_hire (h : pp.mact m = .hire) : ∃ p ci co e, m = .hire p ci co e := by cases m <;> simp_all [mact]
theorem mact_shut {c : Nat} (h : pp.mact m = .shut c) : c = pp.c0 ∧ ∃ l, m = .shut l := by cases m <;> simp_all [mact]
theorem mact_wait (h : pp.mact m = .wait) : ∃ l, m = .wait l := by cases m <;> simp_all [mact]
theorem Inv.who (h : pp.Inv m j f cl) {i k : Nat} (hi : i < j) (hk : k < j) (hif : i < pp.nf) (e : (f k).cin = (f i).cout) : (k = i + 1 ∧ k < pp.nf) ∨ (pp.nf ≤ k ∧ i + 1 = pp.nf) := by
 have h1 := h.ins k hk
 rw [h1] at e
 have e' : pp.chIn f (min k pp.nf) = pp.chIn f (i + 1) := e
 have := h.inj (a := min k pp.nf) (b := i + 1) (by omega) (by omega) (by omega) (by omega) e'
 omega
theorem Inv.send_lt (h : pp.Inv m j f cl) {i : Nat} {v : Value} (hi : i < j) (e : (f i).ph = .send v) : i < pp.nf := by
 rcases Nat.lt_or_ge i pp.nf with x | x
 · exact x
 · rcases h.sink i hi x with y | y <;> rw [y] at e <;> cases e
theorem Inv.shut_lt (h : pp.Inv m j f cl) {i : Nat} (hi : i < j) (e : (f i).ph = .shut) : i < pp.nf := by
 rcases Nat.lt_or_ge i pp.nf with x | x
 · exact x
 · rcases h.sink i hi x with y | y <;> rw [y] at e <;> cases e
theorem Inv.c0_ne (h : pp.Inv m j f cl) {i : Nat} (hi : i < j) (hif : i < pp.nf) : pp.c0 ≠ (f i).cout := fun e => by
 have := h.mono (a := 0) (b := i + 1) (by omega) (by omega) (by omega)
 simp only [chIn] at this
 omega
theorem Inv.c0_in (h : pp.Inv m j f cl) {i : Nat} (hi : i < j) (e : (f i).cin = pp.c0) : i = 0 ∨ pp.nf = 0 := by
 have h1 := h.ins i hi
 rw [h1] at e
 have := h.inj (a := min i pp.nf) (b := 0) (by omega) (by omega) (by omega) (by omega) e
 omega
end PP
end Go.Proofs.Ytblpmdolclalnaa
namespace Go.Proofs.Ytblpmdolclalnaa
open Go.Conc
open Go.ConcN (upd upd_same upd_ne)
namespace PP
variable {pp : PP} {m : MS} {j : Nat} {f f' : Nat → KS} {cl : Nat → Option Bool}
@[simp] theorem gotS_kd (s : KS) (v : Value) : (gotS pp s v).kd = s.kd := rfl
@[simp] theorem gotS_cin (s : KS) (v : Value) : (gotS pp s v).cin = s.cin := rfl
@[simp] theorem gotS_cout (s : KS) (v : Value) : (gotS pp s v).cout = s.cout := rfl
@[simp] theorem gotS_got (s : KS) (v : Value) : (gotS pp s v).got = s.got ++ [v] := rfl
@[simp] theorem endS_kd (s : KS) : (endS pp s).kd = s.kd := rfl
@[simp] theorem endS_cin (s : KS) : (endS pp s).cin = s.cin := rfl
@[simp] theorem endS_cout (s : KS) : (endS pp s).cout = s.cout := rfl
@[simp] theorem endS_got (s : KS) : (endS pp s).got = s.got := rfl
@[simp] theorem nextS_kd (s : KS) : (nextS s).kd = s.kd := rfl
@[simp] theorem nextS_cin (s : KS) : (nextS s).cin = s.cin := rfl
@[simp] theorem nextS_cout (s : KS) : (nextS s).cout = s.cout := rfl
@[simp] theorem nextS_got (s : KS) : (nextS s).got = s.got := rfl
theorem upd_cout {i : Nat} {s : KS} (h : s.cout = (f i).cout) (k : Nat) : (upd f i s k).cout = (f k).cout := by
 by_cases e : k = i
 · subst e; rw [upd_same]; exact h
 · rw [upd_ne _ _ e]
theorem outs_recv {s : KS} (i : Nat) (h : s.ph = .recv) : pp.outs i s = s.got.map (pp.phi i) := by simp [outs, h]
theorem outs_send {s : KS} (i : Nat) {v : Value} (h : s.ph = .send v) {l : List Value} {x : Value} (e : s.got = l ++ [x]) : pp.outs i s = l.map (pp.phi i) := by simp [outs, h, e]
theorem Inv.turn (h : pp.Inv m j f cl) {m' : MS} (hcl : ∀ i, (f' i).cout = (f i).cout) (hci : ∀ i, i < j → (f' i).cin = (f i).cin) (hkd : ∀ i, i < j → (f' i).kd = (f i).kd)
   (hm : ∀ p ci co e, m ≠ .hire p ci co e) (hm' : ∀ p ci co e, m' ≠ .hire p ci co e)
   (cz : cl pp.c0 = if j = 0 then none else some (isWait m')) (cs : ∀ i, i < j → i < pp.nf → isDone (f' i).ph = isDone (f i).ph)
   (shutd : ∀ i, i < j → ((f' i).ph = .shut ∨ (f' i).ph = .done) → cl (f i).cin = some true)
   (sink : ∀ i, i < j → pp.nf ≤ i → (f' i).ph = .recv ∨ (f' i).ph = .done)
   (snd : ∀ i v, i < j → (f' i).ph = .send v → ∃ l x, (f' i).got = l ++ [x] ∧ v = pp.phi i x)
   (len : (sent m').length ≤ pp.n) (msg : ∀ l v, m' = .send l v → l.length < pp.n ∧ pp.okV v)
   (gots : ∀ i, i < j → (f' i).got.length ≤ (sent m').length ∧ ∀ x ∈ (f' i).got, pp.okV x)
   (data1 : ∀ i, i < j → (i < pp.nf ∨ pp.K = 1) → (f' i).got = pp.stream (sent m') f' (min i pp.nf))
   (data2 : pp.nf = 0 → ∀ v, v ∈ sent m' ↔ ∃ i, i < j ∧ v ∈ (f' i).got) : pp.Inv m' j f' cl where
 cnt p ci co e x := absurd x (hm' p ci co e)
 all _ := h.all hm
 le := h.le
 idle p ci co e x := absurd x (hm' p ci co e)
 kd i hi := (hkd i hi).trans (h.kd i hi)
 ins i hi := by rw [hci i hi, h.ins i hi, chIn_congr hcl]
 up i hi hif := by rw [chIn_congr hcl, chIn_congr hcl]; exact h.up i hi hif
 cz := cz
 cs i hi hif := by rw [hcl, h.cs i hi hif, cs i hi hif]
 cn c hc hn := h.cn c hc fun i hi hif => by rw [← hcl]; exact hn i hi hif
 shutd i hi x := by rw [hci i hi]; exact shutd i hi x
 sink := sink
 snd := snd
 len := len
 msg := msg
 gots := gots
 data1 := data1
 data2 := data2
theorem Inv.not_hire (h : pp.Inv m j f cl) {i : Nat} (hi : i < j) (hne : (f i).ph ≠ .recv) : ∀ p ci co e, m ≠ .hire p ci co e := fun p ci co e x => hne (h.idle p ci co e x i hi).1
theorem Inv.kmeet (h : pp.Inv m j f cl) (hK : pp.nf = 0 ∨ pp.K = 1) (hphi : ∀ i v, pp.okV v → pp.okV (pp.phi i v)) {i k c : Nat} {v : Value} (hi : i < j) (hk : k < j) (hik : i ≠ k) (hs : act (f i) = .send c v) (hr : act (f k) = .recv c) :
   pp.okGot (f k) v ∧ pp.Inv m j (upd (upd f i (nextS (f i))) k (pp.gotS (f k) v)) cl := by
 obtain ⟨p1, c1⟩ := act_send hs
 obtain ⟨p2, c2⟩ := act_recv hr
 have hif := h.send_lt hi p1
 have hm := h.not_hire hi (by rw [p1]; simp)
 obtain ⟨l, x, hg, hv⟩ := h.snd i v hi p1
 have hK1 : pp.K = 1 := hK.resolve_left (by omega)
 have hj := h.all hm
 have hw := h.who hi hk hif (c2.trans c1.symm)
 have hmin : min k pp.nf = i + 1 := by omega
 have hkgot : (f k).got = l.map (pp.phi i) := by
   rw [h.data1 k hk (by omega), hmin]
   exact outs_send i p1 hg
 have hokv : pp.okV v := by rw [hv]; exact hphi _ _ ((h.gots i hi).2 x (by rw [hg]; simp))
 have hlen : l.length + 1 ≤ (sent m).length := by have := (h.gots i hi).1; rw [hg] at this; simpa using this
 have hkl : (f k).got.length = l.length := by rw [hkgot]; simp
 have hn := h.len
 refine ⟨⟨hokv, by omega, p2⟩, ?_⟩
 have eo : ∀ b, (upd (upd f i (nextS (f i))) k (pp.gotS (f k) v) b).cout = (f b).cout := fun b => by
   rw [upd_cout (by rw [upd_ne _ _ (Ne.symm hik)]; rfl), upd_cout (i := i) (s := nextS (f i)) rfl]
 have ei : ∀ b, b = i → upd (upd f i (nextS (f i))) k (pp.gotS (f k) v) b = nextS (f i) := fun b e => by subst e; rw [upd_ne _ _ hik, upd_same]
 have ek : ∀ b, b = k → upd (upd f i (nextS (f i))) k (pp.gotS (f k) v) b = pp.gotS (f k) v := fun b e => by subst e; rw [upd_same]
 have en : ∀ b, b ≠ i → b ≠ k → upd (upd f i (nextS (f i))) k (pp.gotS (f k) v) b = f b := fun b e1 e2 => by rw [upd_ne _ _ e2, upd_ne _ _ e1]
 have pi : (nextS (f i)).ph = .recv := by simp [nextS, p1]
 have pk : k < pp.nf → (pp.gotS (f k) v).ph = .send (pp.phi k v) := fun hkf => by simp [gotS, h.kd k hk, hkf]
 have pk' : pp.nf ≤ k → (pp.gotS (f k) v).ph = .recv := fun hkf => by simp [gotS, h.kd k hk, Nat.not_lt.2 hkf]
 have st : ∀ b, b ≤ pp.nf → pp.stream (sent m) (upd (upd f i (nextS (f i))) k (pp.gotS (f k) v)) b = if b = i + 1 then l.map (pp.phi i) ++ [v] else pp.stream (sent m) f b := fun b hb => by
   cases b with
   | zero => simp [stream]
   | succ b =>
     simp only [stream, Nat.add_right_cancel_iff]
     rcases Decidable.em (b = i) with e | e
     · rw [if_pos e, ei b e, outs_recv _ pi, nextS_got, hg, e]
       simp [hv]
     · rw [if_neg e]
       rcases Decidable.em (b = k) with e' | e'
       · rw [ek b e', outs_send (v := pp.phi k v) (l := (f k).got) (x := v) _ (pk (by omega)) rfl, e', outs_recv _ p2]
       · rw [en b e e']
 have key : ∀ (b : Nat) (C : KS → Prop), (b = i → C (nextS (f i))) → (b = k → C (pp.gotS (f k) v)) → (b ≠ i → b ≠ k → C (f b)) → C (upd (upd f i (nextS (f i))) k (pp.gotS (f k) v) b) := fun b C h1 h2 h3 => by
   rcases Decidable.em (b = i) with e | e
   · rw [ei b e]; exact h1 e
   · rcases Decidable.em (b = k) with e' | e'
     · rw [ek b e']; exact h2 e'
     · rw [en b e e']; exact h3 e e'
 refine h.turn eo (fun b _ => ?_) (fun b _ => ?_) hm hm h.cz (fun b hb hbf => ?_) (fun b hb => ?_) (fun b hb hbf => ?_) (fun b y hb => ?_) h.len h.msg (fun b hb => ?_) (fun b hb hx => ?_) (fun h0 => by omega)
 · exact key b (fun s => s.cin = (f b).cin) (fun e => by rw [e]; rfl) (fun e => by rw [e]; rfl) (fun _ _ => rfl)
 · exact key b (fun s => s.kd = (f b).kd) (fun e => by rw [e]; rfl) (fun e => by rw [e]; rfl) (fun _ _ => rfl)
 · exact key b (fun s => isDone s.ph = isDone (f b).ph) (fun e => by rw [e, pi, p1]; rfl) (fun e => by subst e; rw [pk hbf, p2]; rfl) (fun _ _ => rfl)
 · refine key b (fun s => (s.ph = .shut ∨ s.ph = .done) → cl (f b).cin = some true) (fun e => by rw [pi]; simp) (fun e => ?_) (fun _ _ => h.shutd b hb)
   rcases Nat.lt_or_ge k pp.nf with x | x
   · rw [pk x]; simp
   · rw [pk' x]; simp
 · exact key b (fun s => s.ph = .recv ∨ s.ph = .done) (fun e => .inl pi) (fun e => .inl (pk' (by omega))) (fun _ _ => h.sink b hb hbf)
 · refine key b (fun s => s.ph = .send y → ∃ l x, s.got = l ++ [x] ∧ y = pp.phi b x) (fun e => by rw [pi]; simp) (fun e => ?_) (fun _ _ => h.snd b y hb)
   rcases Nat.lt_or_ge k pp.nf with x | x
   · rw [pk x, e]
     intro e2
     cases e2
     exact ⟨_, _, rfl, rfl⟩
   · rw [pk' x]; simp
 · refine key b (fun s => s.got.length ≤ (sent m).length ∧ ∀ x ∈ s.got, pp.okV x) (fun e => h.gots i hi) (fun e => ⟨?_, fun y hy => ?_⟩) (fun _ _ => h.gots b hb)
   · rw [gotS_got, List.length_append, hkl]; simpa using hlen
   · rw [gotS_got, List.mem_append] at hy
     rcases hy with hy | hy
     · exact (h.gots k hk).2 y hy
     · rw [List.mem_singleton.1 hy]; exact hokv
 · rw [st _ (by omega)]
   refine key b (fun s => s.got = if min b pp.nf = i + 1 then l.map (pp.phi i) ++ [v] else pp.stream (sent m) f (min b pp.nf)) (fun e => ?_) (fun e => ?_) (fun e e' => ?_)
   · rw [if_neg (by omega), nextS_got, e]
     exact h.data1 i hi (.inl hif)
   · rw [if_pos (by omega), gotS_got, hkgot]
   · rw [if_neg (by omega)]
     exact h.data1 b hb hx
theorem Inv.mmeet (h : pp.Inv m j f cl) {i c : Nat} {v : Value} (hs : pp.mact m = .send c v) (hi : i < j) (hr : act (f i) = .recv c) :
   pp.okGot (f i) v ∧ ∀ m', pp.succ m m' → pp.Inv m' j (upd f i (pp.gotS (f i) v)) cl := by
 obtain ⟨rfl, l, rfl⟩ := mact_send hs
 obtain ⟨p2, c2⟩ := act_recv hr
 obtain ⟨hln, hokv⟩ := h.msg l v rfl
 have hm : ∀ p ci co e, MS.send l v ≠ .hire p ci co e := fun _ _ _ _ x => by cases x
 have hj := h.all hm
 have hw := h.c0_in hi c2
 have hmin : min i pp.nf = 0 := by omega
 have hgl := (h.gots i hi).1
 simp only [sent] at hgl
 refine ⟨⟨hokv, by omega, p2⟩, fun m' hm' => ?_⟩
 have hm2 : ∀ p ci co e, m' ≠ .hire p ci co e := fun _ _ _ _ x => by
   subst x
   rcases hm' with ⟨_, y, _⟩ | y <;> cases y
 have hsent : sent m' = l ++ [v] := by rcases hm' with ⟨_, rfl, _⟩ | rfl <;> rfl
 have hwait : isWait m' = false := by rcases hm' with ⟨_, rfl, _⟩ | rfl <;> rfl
 have key : ∀ (b : Nat) (C : KS → Prop), (b = i → C (pp.gotS (f i) v)) → (b ≠ i → C (f b)) → C (upd f i (pp.gotS (f i) v) b) := fun b C h1 h2 => by
   rcases Decidable.em (b = i) with e | e
   · subst e; rw [upd_same]; exact h1 rfl
   · rw [upd_ne _ _ e]; exact h2 e
 have pk : i < pp.nf → (pp.gotS (f i) v).ph = .send (pp.phi i v) := fun hkf => by simp [gotS, h.kd i hi, hkf]
 have pk' : pp.nf ≤ i → (pp.gotS (f i) v).ph = .recv := fun hkf => by simp [gotS, h.kd i hi, Nat.not_lt.2 hkf]
 have st : ∀ b, b ≤ pp.nf → pp.stream (l ++ [v]) (upd f i (pp.gotS (f i) v)) b = if b = 0 then l ++ [v] else pp.stream l f b := fun b hb => by
   cases b with
   | zero => simp [stream]
   | succ b =>
     simp only [stream, Nat.add_eq_zero_iff, Nat.succ_ne_self, and_false, if_false]
     refine key b (fun s => pp.outs b s = pp.outs b (f b)) (fun e => ?_) (fun _ => rfl)
     subst e
     rw [outs_send (v := pp.phi b v) (l := (f b).got) (x := v) _ (pk (by omega)) rfl, outs_recv _ p2]
 refine h.turn (upd_cout rfl) (fun b _ => ?_) (fun b _ => ?_) hm hm2 (by rw [hwait]; exact h.cz) (fun b hb hbf => ?_) (fun b hb => ?_) (fun b hb hbf => ?_) (fun b y hb => ?_) (by rw [hsent, List.length_append]; simp; omega) (fun l' v' e => ?_) (fun b hb => ?_) (fun b hb hx => ?_) (fun h0 y => ?_)
 · exact key b (fun s => s.cin = (f b).cin) (fun e => by rw [e]; rfl) (fun _ => rfl)
 · exact key b (fun s => s.kd = (f b).kd) (fun e => by rw [e]; rfl) (fun _ => rfl)
 · exact key b (fun s => isDone s.ph = isDone (f b).ph) (fun e => by subst e; rw [pk hbf, p2]; rfl) (fun _ => rfl)
 · refine key b (fun s => (s.ph = .shut ∨ s.ph = .done) → cl (f b).cin = some true) (fun e => ?_) (fun _ => h.shutd b hb)
   rcases Nat.lt_or_ge i pp.nf with x | x
   · rw [pk x]; simp
   · rw [pk' x]; simp
 · exact key b (fun s => s.ph = .recv ∨ s.ph = .done) (fun e => .inl (pk' (by omega))) (fun _ => h.sink b hb hbf)
 · refine key b (fun s => s.ph = .send y → ∃ l x, s.got = l ++ [x] ∧ y = pp.phi b x) (fun e => ?_) (fun _ => h.snd b y hb)
   rcases Nat.lt_or_ge i pp.nf with x | x
   · rw [pk x, e]
     intro e2
     cases e2
     exact ⟨_, _, rfl, rfl⟩
   · rw [pk' x]; simp
 · subst e
   rcases hm' with ⟨v2, y, h1, h2⟩ | y
   · cases y; exact ⟨h2, h1⟩
   · cases y
 · rw [hsent]
   refine key b (fun s => s.got.length ≤ (l ++ [v]).length ∧ ∀ x ∈ s.got, pp.okV x) (fun e => ⟨?_, fun y hy => ?_⟩) (fun _ => ⟨?_, (h.gots b hb).2⟩)
   · rw [gotS_got]; simpa using hgl
   · rw [gotS_got, List.mem_append] at hy
     rcases hy with hy | hy
     · exact (h.gots i hi).2 y hy
     · rw [List.mem_singleton.1 hy]; exact hokv
   · have := (h.gots b hb).1
     simp only [sent] at this
     simp; omega
 · rw [hsent, st _ (by omega)]
   refine key b (fun s => s.got = if min b pp.nf = 0 then l ++ [v] else pp.stream l f (min b pp.nf)) (fun e => ?_) (fun e => ?_)
   · have hx' : i < pp.nf ∨ pp.K = 1 := by rw [← e]; exact hx
     have := h.data1 i hi hx'
     rw [hmin] at this
     rw [if_pos (by omega), gotS_got, this]
     rfl
   · rw [if_neg (by omega)]
     exact h.data1 b hb hx
 · have h2 : y ∈ l ↔ _ := h.data2 h0 y
   rw [hsent, List.mem_append, h2]
   constructor
   · rintro (⟨b, hb, hy⟩ | hy)
     · refine ⟨b, hb, key b (fun s => y ∈ s.got) (fun e => ?_) (fun _ => hy)⟩
       rw [gotS_got, ← e]; simp [hy]
     · refine ⟨i, hi, key i (fun s => y ∈ s.got) (fun e => ?_) (fun e => absurd rfl e)⟩
       rw [gotS_got]; simp at hy; simp [hy]
   · rintro ⟨b, hb, hy⟩
     revert hy
     refine key b (fun s => y ∈ s.got → _) (fun e hy => ?_) (fun _ hy => .inl ⟨b, hb, hy⟩)
     rw [gotS_got, List.mem_append] at hy
     rcases hy with hy | hy
     · exact .inl ⟨i, hi, hy⟩
     · exact .inr hy
theorem Inv.ends (h : pp.Inv m j f cl) {i c : Nat} (hi : i < j) (hr : act (f i) = .recv c) (hc : cl c = some true) : okEnd (f i) ∧ pp.Inv m j (upd f i (pp.endS (f i))) cl := by
 obtain ⟨p2, c2⟩ := act_recv hr
 refine ⟨p2, ?_⟩
 have hm : ∀ p ci co e, m ≠ .hire p ci co e := fun p ci co e x => by
   have hz := h.cz
   subst x
   rw [if_neg (by omega)] at hz
   rcases Decidable.em (c = pp.c0) with y | y
   · rw [y] at hc; rw [hz] at hc; simp [isWait] at hc
   · have h1 := h.ins i hi
     have : ∃ b, b < j ∧ b < pp.nf ∧ c = (f b).cout := Decidable.byContradiction fun hn => by
       have := h.cn c y fun b hb hbf e => hn ⟨b, hb, hbf, e⟩
       rw [this] at hc; cases hc
     obtain ⟨b, hb, hbf, e⟩ := this
     have h2 := h.cs b hb hbf
     rw [← e, hc, (h.idle _ _ _ _ rfl b hb).1] at h2
     cases h2
 have key : ∀ (b : Nat) (C : KS → Prop), (b = i → C (pp.endS (f i))) → (b ≠ i → C (f b)) → C (upd f i (pp.endS (f i)) b) := fun b C h1 h2 => by
   rcases Decidable.em (b = i) with e | e
   · subst e; rw [upd_same]; exact h1 rfl
   · rw [upd_ne _ _ e]; exact h2 e
 have pk : i < pp.nf → (pp.endS (f i)).ph = .shut := fun hkf => by simp [endS, h.kd i hi, hkf]
 have pk' : pp.nf ≤ i → (pp.endS (f i)).ph = .done := fun hkf => by simp [endS, h.kd i hi, Nat.not_lt.2 hkf]
 have st : ∀ b, b ≤ pp.nf → pp.stream (sent m) (upd f i (pp.endS (f i))) b = pp.stream (sent m) f b := fun b hb => by
   cases b with
   | zero => rfl
   | succ b =>
     simp only [stream]
     refine key b (fun s => pp.outs b s = pp.outs b (f b)) (fun e => ?_) (fun _ => rfl)
     subst e
     rw [outs_recv _ p2]
     simp [outs, pk (by omega)]
 refine h.turn (upd_cout rfl) (fun b _ => ?_) (fun b _ => ?_) hm hm h.cz (fun b hb hbf => ?_) (fun b hb => ?_) (fun b hb hbf => ?_) (fun b y hb => ?_) h.len h.msg (fun b hb => ?_) (fun b hb hx => ?_) (fun h0 y => ?_)
 · exact key b (fun s => s.cin = (f b).cin) (fun e => by rw [e]; rfl) (fun _ => rfl)
 · exact key b (fun s => s.kd = (f b).kd) (fun e => by rw [e]; rfl) (fun _ => rfl)
 · exact key b (fun s => isDone s.ph = isDone (f b).ph) (fun e => by subst e; rw [pk hbf, p2]; rfl) (fun _ => rfl)
 · exact key b (fun s => (s.ph = .shut ∨ s.ph = .done) → cl (f b).cin = some true) (fun e _ => by rw [e, c2]; exact hc) (fun _ => h.shutd b hb)
 · exact key b (fun s => s.ph = .recv ∨ s.ph = .done) (fun e => .inr (pk' (by omega))) (fun _ => h.sink b hb hbf)
 · refine key b (fun s => s.ph = .send y → ∃ l x, s.got = l ++ [x] ∧ y = pp.phi b x) (fun e => ?_) (fun _ => h.snd b y hb)
   rcases Nat.lt_or_ge i pp.nf with x | x
   · rw [pk x]; simp
   · rw [pk' x]; simp
 · exact key b (fun s => s.got.length ≤ (sent m).length ∧ ∀ x ∈ s.got, pp.okV x) (fun e => h.gots i hi) (fun _ => h.gots b hb)
 · rw [st _ (by omega)]
   refine key b (fun s => s.got = pp.stream (sent m) f (min b pp.nf)) (fun e => ?_) (fun _ => h.data1 b hb hx)
   subst e
   exact h.data1 b hi hx
 · rw [h.data2 h0 y]
   refine exists_congr fun b => and_congr_right fun hb => ?_
   exact key b (fun s => y ∈ (f b).got ↔ y ∈ s.got) (fun e => by rw [e]; rfl) (fun _ => Iff.rfl)
end PP
end Go.Proofs.Ytblpmdolclalnaa
