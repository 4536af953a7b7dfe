/- The trace's law is kept by whatever goroutine 0 or a child does within its share: no condition beside the shares. A net of goroutines: one starts children, sends, closes and waits; each child receives, sends, closes and says Done: what is asked of each, and of the protocol. Definitions; no condition. THE PROTOCOL of a chain: one sender, nf forwarders, K receivers at the end .. -/
import Derived.Test.YtblpmdolclalnaaN01
import Derived.Conc.Token
set_option maxHeartbeats 16000000
set_option linter.unusedSimpArgs false
set_option linter.unusedVariables false
namespace Go.Proofs.Ytblpmdolclalnaa
open Go.Conc
open Go.ConcN (PermW)
open Go.ConcR (stA)
def OkM (Wg : Nat) (o : Nat → Nat) (n n' : Nat) (NC : Nat → Prop) (Given : Cells) (Fz : Nat → Prop) (b : Touch) : Prop :=
 (∃ a : Addr, b.loc = .cell a ∧ a.block < n' ∧ o a.block = 0 ∧ (a.block < n → ¬ Given a.block a.off ∧ (¬ Fz a.block ∨ b.write = false))) ∨ (Sh Wg NC b.loc ∧ b.kind ≠ .plain) ∨ ∃ c, b.loc = .obj c ∧ NC c ∧ c < n'
def OkK (Wg : Nat) (o : Nat → Nat) (n n' : Nat) (NC : Nat → Prop) (kg : KG) (i : Nat) (b : Touch) : Prop :=
 (∃ a : Addr, b.loc = .cell a ∧ a.block < n' ∧ ((o a.block = i + 1 ∨ (a.block < n ∧ kg.Got a.block a.off)) ∨ (a.block < n ∧ kg.Rd a.block ∧ b.write = false))) ∨ (Sh Wg NC b.loc ∧ b.kind = .atomic)
section
variable {Wg : Nat} {Shun : Nat → Prop} {o : Nat → Nat} {n n' : Nat} {Given : Cells} {Fz Ch : Nat → Prop} {base j : Nat} {D : Nat → KG} {T0 : Nat} {NC NC' : Nat → Prop} {t u : Trace}
theorem Sh.cell {a : Addr} (h : Sh Wg NC (.cell a)) : a.block = Wg := by
 rcases h with ⟨a', e, h⟩ | ⟨c, e, _⟩
 · cases e; exact h
 · cases e
theorem Sh.obj {c : Nat} (h : Sh Wg NC (.obj c)) : ¬ NC c := by
 rcases h with ⟨a', e, h⟩ | ⟨c', e, h⟩
 · cases e
 · cases e; exact h
theorem Tr.nc (h : Tr Wg Shun o n Given Fz base j D T0 NC t) (hN : ∀ b, b < n → (NC' b ↔ NC b)) : Tr Wg Shun o n Given Fz base j D T0 NC' t :=
 ⟨h.clean, h.seen, h.seenO, h.main, h.kid, fun i a ha hs => h.sh i a ha (by
   rcases hs with x | ⟨c, e, x⟩
   · exact .inl x
   · exact .inr ⟨c, e, fun y => x ((hN c (h.seenO i a c ha e)).2 y)⟩), fun i a c ha e hc => h.ob i a c ha e ((hN c (h.seenO i a c ha e)).1 hc), h.acc, h.over, h.norel⟩
theorem knows_new {g : Nat} (hu : ∀ op ∈ u, op.g = g) {i : Nat} {op : MemOp} (h : (t ++ u)[i]? = some op) (hm : op ∈ u) : Knows (t ++ u) g i := by
 have := knows_own h
 rwa [hu op hm] at this
theorem Tr.appM (hG : Gh Wg Shun o n Given Fz Ch j D) (h : Tr Wg Shun o n Given Fz base j D T0 NC t) (hn : n ≤ n') (hN : ∀ b, b < n → (NC' b ↔ NC b)) (hNn : ∀ c, ¬ NC' c → c < n')
   (hu : ∀ op ∈ u, op.g = 0) (hb : ∀ op ∈ u, ∀ b, op.act.touch? = some b → OkM Wg o n n' NC' Given Fz b) (hr : ∀ op ∈ u, ∀ a, op.act ≠ .mark (.release a)) : Tr Wg Shun o n' Given Fz base j D T0 NC' (t ++ u) := by
 have ng : ∀ a : Addr, n ≤ a.block → ¬ Given a.block a.off := fun a ha hg => by have := (hG.given _ _ hg).1; omega
 have nf : ∀ b, n ≤ b → ¬ Fz b := fun b ha hg => by have := (hG.fz _ hg).1; omega
 have shold : ∀ {i : Nat} {a : Touch}, touchAt t i = some a → Sh Wg NC' a.loc → Sh Wg NC a.loc := fun {i a} ha hs => by
   rcases hs with x | ⟨c, e, x⟩
   · exact .inl x
   · exact .inr ⟨c, e, fun y => x ((hN c (h.seenO i a c ha e)).2 y)⟩
 have shne : ∀ a : Addr, a.block < n → ¬ Given a.block a.off → ¬ Sh Wg NC' (.cell a) := fun a _ hg hs => hg (Sh.cell hs ▸ hG.wg.2.2.1 _)
 refine ⟨fun said => ?_, fun i a ad ha hl => ?_, fun i a c ha hl => ?_, fun a hlt ho hg => ⟨?_, fun hf => ?_⟩, fun i hi a hlt => ⟨fun ho => ?_, fun hrd => ?_⟩, fun i a ha hs => ⟨fun hk g hgg => ?_, fun hk => ?_⟩, fun i a c ha hl hc => ?_, fun i a ha hm => ?_, fun i g hg hne hc => ?_, fun k a hk => ?_⟩
 · refine noRace_append (h.clean said) hu fun i a ha op hop b hbb hc => ?_
   rcases hb op hop b hbb with ⟨ad, hl, hlt, ho, hw⟩ | ⟨hs, hk⟩ | ⟨c, hl, hc', _⟩
   · have hal : a.loc = .cell ad := hc.1.trans hl
     have hlt' := h.seen i a ad ha hal
     obtain ⟨h1, h2⟩ := hw hlt'
     by_cases hf : Fz ad.block
     · have hbw : b.write = false := h2.resolve_left (fun x => x hf)
       refine (h.main ad hlt' ho h1).1 i a ha hal ?_
       rcases hc.2.2.1 with x | x
       · exact x
       · rw [hbw] at x; cases x
     · exact (h.main ad hlt' ho h1).2 hf i a ha hal
   · have hsa : Sh Wg NC a.loc := shold ha (hc.1 ▸ hs)
     rcases hc.2.2.2 with x | x | ⟨_, x, _⟩
     · exact (h.sh i a ha hsa).1 x 0 (.inl rfl)
     · exact absurd x hk
     · exact (h.sh i a ha hsa).2 x
   · have hal : a.loc = .obj c := hc.1.trans hl
     exact h.ob i a c ha hal ((hN c (h.seenO i a c ha hal)).1 hc')
 · rcases touchAt_app ha with ⟨_, ha'⟩ | ⟨_, op, hop, _, hoa⟩
   · exact Nat.lt_of_lt_of_le (h.seen i a ad ha' hl) hn
   · rcases hb op hop a hoa with ⟨ad', hl', hlt', _⟩ | ⟨hs, _⟩ | ⟨c, hl', _, _⟩
     · rw [hl] at hl'; cases hl'; exact hlt'
     · rw [hl] at hs
       rw [Sh.cell hs]
       exact Nat.lt_of_lt_of_le hG.wg.1 hn
     · rw [hl] at hl'; cases hl'
 · rcases touchAt_app ha with ⟨_, ha'⟩ | ⟨_, op, hop, _, hoa⟩
   · exact Nat.lt_of_lt_of_le (h.seenO i a c ha' hl) hn
   · rcases hb op hop a hoa with ⟨ad', hl', _⟩ | ⟨hs, _⟩ | ⟨c', hl', _, hlt⟩
     · rw [hl] at hl'; cases hl'
     · rw [hl] at hs
       exact hNn c (Sh.obj hs)
     · rw [hl] at hl'; cases hl'; exact hlt
 · intro i x hx hl hw
   rcases touchAt_app hx with ⟨hi, hx'⟩ | ⟨_, op, hop, hio, _⟩
   · exact ((h.main a (h.seen i x a hx' hl) ho hg).1 i x hx' hl hw).app u
   · exact knows_new hu hio hop
 · intro i x hx hl
   rcases touchAt_app hx with ⟨hi, hx'⟩ | ⟨_, op, hop, hio, _⟩
   · exact ((h.main a (h.seen i x a hx' hl) ho hg).2 hf i x hx' hl).app u
   · exact knows_new hu hio hop
 · intro q x hx hl
   rcases touchAt_app hx with ⟨_, hx'⟩ | ⟨_, op, hop, hio, hoa⟩
   · exact ((h.kid i hi a (h.seen q x a hx' hl)).1 ho q x hx' hl).app u
   · exfalso
     rcases hb op hop x hoa with ⟨ad', hl', hlt', ho', hw'⟩ | ⟨hs, _⟩ | ⟨c, hl', _⟩
     · rw [hl] at hl'; cases hl'
       rcases ho with ho | hgot
       · omega
       · exact (hw' (hG.given _ _ (hG.got i hi _ _ hgot).1).1).1 (hG.got i hi _ _ hgot).1
     · rw [hl] at hs
       have hw := Sh.cell hs
       rcases ho with ho | hgot
       · rw [hw, hG.wg.2.1] at ho; omega
       · exact (hG.got i hi _ _ hgot).2.2.1 hw
     · rw [hl] at hl'; cases hl'
 · intro q x hx hl hw
   rcases touchAt_app hx with ⟨_, hx'⟩ | ⟨_, op, hop, hio, hoa⟩
   · exact ((h.kid i hi a (h.seen q x a hx' hl)).2 hrd q x hx' hl hw).app u
   · exfalso
     have hfz := hG.rd i hi _ hrd
     rcases hb op hop x hoa with ⟨ad', hl', hlt', ho', hw'⟩ | ⟨hs, _⟩ | ⟨c, hl', _⟩
     · rw [hl] at hl'; cases hl'
       rcases (hw' (hG.fz _ hfz).1).2 with x' | x'
       · exact x' hfz
       · rw [x'] at hw; cases hw
     · rw [hl] at hs
       exact hG.wg.2.2.2.1 (Sh.cell hs ▸ hfz)
     · rw [hl] at hl'; cases hl'
 · rcases touchAt_app ha with ⟨_, ha'⟩ | ⟨_, op, hop, hio, hoa⟩
   · exact ((h.sh i a ha' (shold ha' hs)).1 hk g hgg).app u
   · exfalso
     rcases hb op hop a hoa with ⟨ad', hl', hlt', ho', hw'⟩ | ⟨_, hk'⟩ | ⟨c, hl', hc', _⟩
     · rw [hl'] at hs
       have hw := Sh.cell hs
       exact (hw' (hw ▸ hG.wg.1)).1 (hw ▸ hG.wg.2.2.1 _)
     · exact hk' hk
     · rw [hl'] at hs
       exact Sh.obj hs hc'
 · rcases touchAt_app ha with ⟨_, ha'⟩ | ⟨_, op, hop, hio, hoa⟩
   · exact ((h.sh i a ha' (shold ha' hs)).2 hk).app u
   · exact knows_new hu hio hop
 · rcases touchAt_app ha with ⟨_, ha'⟩ | ⟨_, op, hop, hio, hoa⟩
   · exact (h.ob i a c ha' hl ((hN c (h.seenO i a c ha' hl)).1 hc)).app u
   · exact knows_new hu hio hop
 · rcases touchAt_app ha with ⟨hi, ha'⟩ | ⟨_, op, hop, hio, hoa⟩
   · rcases h.acc i a ha' hm with x | x | ⟨k, hk, x⟩
     · exact .inl (x.app u)
     · exact .inr (.inl x)
     · exact .inr (.inr ⟨k, hk, by rw [g?_old hi]; exact x⟩)
   · exact .inl (knows_new hu hio hop)
 · rcases Nat.lt_or_ge i t.size with hi | hi
   · rw [g?_old hi] at hg
     rcases h.over i g hg hne ((counts_old hi).1 hc) with ⟨q, hq, hh⟩ | x
     · have hql : q < t.size := by
         unfold Trace.g? at hq
         obtain ⟨z, hz, _⟩ := Option.map_eq_some_iff.1 hq
         exact lt_size_of_getElem? hz
       exact .inl ⟨q, by rw [g?_old hql]; exact hq, hb_app u hh⟩
     · exact .inr x
   · obtain ⟨op, ho, hog⟩ := Option.map_eq_some_iff.1 hg
     rcases getElem?_append_cases ho with ⟨hlt, _⟩ | ⟨_, hm⟩
     · omega
     · rw [hu op hm] at hog; exact absurd hog.symm hne
 · intro e
   obtain ⟨op, ho, hoa⟩ := Option.map_eq_some_iff.1 e
   rcases getElem?_append_cases ho with ⟨hlt, ho'⟩ | ⟨_, hm⟩
   · exact h.norel k a hk (by rw [act?_of ho', hoa])
   · exact hr op hm a hoa
theorem Tr.appK (hG : Gh Wg Shun o n Given Fz Ch j D) (h : Tr Wg Shun o n Given Fz base j D T0 NC t) (hn : n ≤ n') (hN : ∀ b, b < n → (NC' b ↔ NC b)) (hNn : ∀ c, ¬ NC' c → c < n') {k : Nat} (hk : k < j)
   (hu : ∀ op ∈ u, op.g = base + k) (hb : ∀ op ∈ u, ∀ b, op.act.touch? = some b → OkK Wg o n n' NC' (D k) k b) (hr : ∀ op ∈ u, ∀ a, op.act ≠ .mark (.release a)) : Tr Wg Shun o n' Given Fz base j D T0 NC' (t ++ u) := by
 have shold : ∀ {i : Nat} {a : Touch}, touchAt t i = some a → Sh Wg NC' a.loc → Sh Wg NC a.loc := fun {i a} ha hs => by
   rcases hs with x | ⟨c, e, x⟩
   · exact .inl x
   · exact .inr ⟨c, e, fun y => x ((hN c (h.seenO i a c ha e)).2 y)⟩
 have ownlt : ∀ b, o b = k + 1 → b ≠ Wg := fun b hb e => by rw [e, hG.wg.2.1] at hb; omega
 refine ⟨fun said => ?_, fun i a ad ha hl => ?_, fun i a c ha hl => ?_, fun a hlt ho hg => ⟨?_, fun hf => ?_⟩, fun i hi a hlt => ⟨fun ho => ?_, fun hrd => ?_⟩, fun i a ha hs => ⟨fun hkk g hgg => ?_, fun hkk => ?_⟩, fun i a c ha hl hc => ?_, fun i a ha hm => ?_, fun i g hg hne hc => ?_, fun q a hq => ?_⟩
 · refine noRace_append (h.clean said) hu fun i a ha op hop b hbb hc => ?_
   rcases hb op hop b hbb with ⟨ad, hl, hlt, hw⟩ | ⟨hs, hk'⟩
   · have hal : a.loc = .cell ad := hc.1.trans hl
     have hlt' := h.seen i a ad ha hal
     rcases hw with hw | ⟨_, hrd, hbw⟩
     · exact (h.kid k hk ad hlt').1 (hw.imp id (·.2)) i a ha hal
     · refine (h.kid k hk ad hlt').2 hrd i a ha hal ?_
       rcases hc.2.2.1 with x | x
       · exact x
       · rw [hbw] at x; cases x
   · have hsa : Sh Wg NC a.loc := shold ha (hc.1 ▸ hs)
     rcases hc.2.2.2 with x | x | ⟨_, x, y⟩
     · exact (h.sh i a ha hsa).1 x _ (.inr ⟨k, hk, rfl⟩)
     · rw [hk'] at x; cases x
     · rw [hk'] at y; cases y
 · rcases touchAt_app ha with ⟨_, ha'⟩ | ⟨_, op, hop, _, hoa⟩
   · exact Nat.lt_of_lt_of_le (h.seen i a ad ha' hl) hn
   · rcases hb op hop a hoa with ⟨ad', hl', hlt', _⟩ | ⟨hs, _⟩
     · rw [hl] at hl'; cases hl'; exact hlt'
     · rw [hl] at hs
       rw [Sh.cell hs]
       exact Nat.lt_of_lt_of_le hG.wg.1 hn
 · rcases touchAt_app ha with ⟨_, ha'⟩ | ⟨_, op, hop, _, hoa⟩
   · exact Nat.lt_of_lt_of_le (h.seenO i a c ha' hl) hn
   · rcases hb op hop a hoa with ⟨ad', hl', _⟩ | ⟨hs, _⟩
     · rw [hl] at hl'; cases hl'
     · rw [hl] at hs
       exact hNn c (Sh.obj hs)
 · intro i x hx hl hw
   rcases touchAt_app hx with ⟨hi, hx'⟩ | ⟨_, op, hop, hio, hoa⟩
   · exact ((h.main a (h.seen i x a hx' hl) ho hg).1 i x hx' hl hw).app u
   · exfalso
     rcases hb op hop x hoa with ⟨ad', hl', hlt', hw'⟩ | ⟨hs, _⟩
     · rw [hl] at hl'; cases hl'
       rcases hw' with (hw' | ⟨_, hw'⟩) | ⟨_, _, hw'⟩
       · omega
       · exact hg (hG.got k hk _ _ hw').1
       · rw [hw'] at hw; cases hw
     · rw [hl] at hs
       exact hg (Sh.cell hs ▸ hG.wg.2.2.1 _)
 · intro i x hx hl
   rcases touchAt_app hx with ⟨hi, hx'⟩ | ⟨_, op, hop, hio, hoa⟩
   · exact ((h.main a (h.seen i x a hx' hl) ho hg).2 hf i x hx' hl).app u
   · exfalso
     rcases hb op hop x hoa with ⟨ad', hl', hlt', hw'⟩ | ⟨hs, _⟩
     · rw [hl] at hl'; cases hl'
       rcases hw' with (hw' | ⟨_, hw'⟩) | ⟨_, hrd, _⟩
       · omega
       · exact hg (hG.got k hk _ _ hw').1
       · exact hf (hG.rd k hk _ hrd)
     · rw [hl] at hs
       exact hg (Sh.cell hs ▸ hG.wg.2.2.1 _)
 · intro q x hx hl
   rcases touchAt_app hx with ⟨_, hx'⟩ | ⟨_, op, hop, hio, hoa⟩
   · exact ((h.kid i hi a (h.seen q x a hx' hl)).1 ho q x hx' hl).app u
   · by_cases hik : i = k
     · subst hik; exact knows_new hu hio hop
     · exfalso
       rcases hb op hop x hoa with ⟨ad', hl', hlt', hw'⟩ | ⟨hs, _⟩
       · rw [hl] at hl'; cases hl'
         rcases hw' with (hw' | ⟨hlt2, hw'⟩) | ⟨hlt2, hrd, _⟩
         · rcases ho with ho | hgot
           · omega
           · have := (hG.given _ _ (hG.got i hi _ _ hgot).1).2; omega
         · rcases ho with ho | hgot
           · have := (hG.given _ _ (hG.got k hk _ _ hw').1).2; omega
           · exact hG.apart i k hi hk hik _ _ hgot hw'
         · have hfz := hG.fz _ (hG.rd k hk _ hrd)
           rcases ho with ho | hgot
           · omega
           · exact hfz.2.2 _ (hG.got i hi _ _ hgot).1
       · rw [hl] at hs
         have hw := Sh.cell hs
         rcases ho with ho | hgot
         · rw [hw, hG.wg.2.1] at ho; omega
         · exact (hG.got i hi _ _ hgot).2.2.1 hw
 · intro q x hx hl hw
   rcases touchAt_app hx with ⟨_, hx'⟩ | ⟨_, op, hop, hio, hoa⟩
   · exact ((h.kid i hi a (h.seen q x a hx' hl)).2 hrd q x hx' hl hw).app u
   · exfalso
     have hfz := hG.fz _ (hG.rd i hi _ hrd)
     rcases hb op hop x hoa with ⟨ad', hl', hlt', hw'⟩ | ⟨hs, _⟩
     · rw [hl] at hl'; cases hl'
       rcases hw' with (hw' | ⟨hlt2, hw'⟩) | ⟨hlt2, _, hw'⟩
       · omega
       · exact hfz.2.2 _ (hG.got k hk _ _ hw').1
       · rw [hw'] at hw; cases hw
     · rw [hl] at hs
       exact hG.wg.2.2.2.1 (Sh.cell hs ▸ hG.rd i hi _ hrd)
 · rcases touchAt_app ha with ⟨_, ha'⟩ | ⟨_, op, hop, hio, hoa⟩
   · exact ((h.sh i a ha' (shold ha' hs)).1 hkk g hgg).app u
   · exfalso
     rcases hb op hop a hoa with ⟨ad', hl', hlt', hw'⟩ | ⟨_, hk'⟩
     · rw [hl'] at hs
       have hw := Sh.cell hs
       rcases hw' with (hw' | ⟨_, hw'⟩) | ⟨_, hrd, _⟩
       · exact ownlt _ hw' hw
       · exact (hG.got k hk _ _ hw').2.2.1 hw
       · exact hG.wg.2.2.2.1 (hw ▸ hG.rd k hk _ hrd)
     · rw [hk'] at hkk; cases hkk
 · rcases touchAt_app ha with ⟨_, ha'⟩ | ⟨_, op, hop, hio, hoa⟩
   · exact ((h.sh i a ha' (shold ha' hs)).2 hkk).app u
   · exfalso
     rcases hb op hop a hoa with ⟨ad', hl', hlt', hw'⟩ | ⟨_, hk'⟩
     · rw [hl'] at hs
       have hw := Sh.cell hs
       rcases hw' with (hw' | ⟨_, hw'⟩) | ⟨_, hrd, _⟩
       · exact ownlt _ hw' hw
       · exact (hG.got k hk _ _ hw').2.2.1 hw
       · exact hG.wg.2.2.2.1 (hw ▸ hG.rd k hk _ hrd)
     · rw [hk'] at hkk; cases hkk
 · rcases touchAt_app ha with ⟨_, ha'⟩ | ⟨_, op, hop, hio, hoa⟩
   · exact (h.ob i a c ha' hl ((hN c (h.seenO i a c ha' hl)).1 hc)).app u
   · exfalso
     rcases hb op hop a hoa with ⟨ad', hl', _⟩ | ⟨hs, _⟩
     · rw [hl] at hl'; cases hl'
     · rw [hl] at hs
       exact Sh.obj hs hc
 · rcases touchAt_app ha with ⟨hi, ha'⟩ | ⟨_, op, hop, hio, hoa⟩
   · rcases h.acc i a ha' hm with x | x | ⟨k', hk', x⟩
     · exact .inl (x.app u)
     · exact .inr (.inl x)
     · exact .inr (.inr ⟨k', hk', by rw [g?_old hi]; exact x⟩)
   · exact .inr (.inr ⟨k, hk, by simp [Trace.g?, hio, hu op hop]⟩)
 · rcases Nat.lt_or_ge i t.size with hi | hi
   · rw [g?_old hi] at hg
     rcases h.over i g hg hne ((counts_old hi).1 hc) with ⟨q, hq, hh⟩ | x
     · have hql : q < t.size := by
         unfold Trace.g? at hq
         obtain ⟨z, hz, _⟩ := Option.map_eq_some_iff.1 hq
         exact lt_size_of_getElem? hz
       exact .inl ⟨q, by rw [g?_old hql]; exact hq, hb_app u hh⟩
     · exact .inr x
   · obtain ⟨op, ho, hog⟩ := Option.map_eq_some_iff.1 hg
     rcases getElem?_append_cases ho with ⟨hlt, _⟩ | ⟨_, hm⟩
     · omega
     · exact .inr ⟨k, hk, by rw [← hog, hu op hm]⟩
 · intro e
   obtain ⟨op, ho, hoa⟩ := Option.map_eq_some_iff.1 e
   rcases getElem?_append_cases ho with ⟨hlt, ho'⟩ | ⟨_, hm⟩
   · exact h.norel q a hq (by rw [act?_of ho', hoa])
   · exact hr op hm a hoa
theorem Tr.appN (h : Tr Wg Shun o n Given Fz base j D T0 NC t) (hu : ∀ op ∈ u, op.act.touch? = none) (hr : ∀ op ∈ u, ∀ a, op.act ≠ .mark (.release a)) : Tr Wg Shun o n Given Fz base j D T0 NC (t ++ u) := by
 have old : ∀ {i : Nat} {a : Touch}, touchAt (t ++ u) i = some a → i < t.size ∧ touchAt t i = some a := by
   intro i a ha
   rcases touchAt_app ha with x | ⟨_, op, hop, _, hoa⟩
   · exact x
   · rw [hu op hop] at hoa; cases hoa
 refine ⟨fun said => ?_, fun i a ad ha hl => h.seen i a ad (old ha).2 hl, fun i a c ha hl => h.seenO i a c (old ha).2 hl, fun a hlt ho hg => ⟨fun i x hx hl hw => ((h.main a hlt ho hg).1 i x (old hx).2 hl hw).app u, fun hf i x hx hl => ((h.main a hlt ho hg).2 hf i x (old hx).2 hl).app u⟩,
   fun i hi a hlt => ⟨fun ho q x hx hl => ((h.kid i hi a hlt).1 ho q x (old hx).2 hl).app u, fun hrd q x hx hl hw => ((h.kid i hi a hlt).2 hrd q x (old hx).2 hl hw).app u⟩,
   fun i a ha hs => ⟨fun hk g hgg => ((h.sh i a (old ha).2 hs).1 hk g hgg).app u, fun hk => ((h.sh i a (old ha).2 hs).2 hk).app u⟩, fun i a c ha hl hc => (h.ob i a c (old ha).2 hl hc).app u, fun i a ha hm => ?_, fun i g hg hne hc => ?_, fun k a hk => ?_⟩
 · rintro ⟨i, q, hiq, ⟨a, b, ha, hb, hc⟩, n1, n2⟩
   have ha' := (old (a := a) ha).2
   have hb' := (old (a := b) hb).2
   exact h.clean said ⟨i, q, hiq, ⟨a, b, ha', hb', hc⟩, fun e => n1 (hb_app u e), fun e => n2 (hb_app u e)⟩
 · rcases h.acc i a (old ha).2 hm with x | x | ⟨k', hk', x⟩
   · exact .inl (x.app u)
   · exact .inr (.inl x)
   · exact .inr (.inr ⟨k', hk', by rw [g?_old (old ha).1]; exact x⟩)
 · rcases Nat.lt_or_ge i t.size with hi | hi
   · rw [g?_old hi] at hg
     rcases h.over i g hg hne ((counts_old hi).1 hc) with ⟨q, hq, hh⟩ | x
     · have hql : q < t.size := by
         unfold Trace.g? at hq
         obtain ⟨z, hz, _⟩ := Option.map_eq_some_iff.1 hq
         exact lt_size_of_getElem? hz
       exact .inl ⟨q, by rw [g?_old hql]; exact hq, hb_app u hh⟩
     · exact .inr x
   · obtain ⟨x, hx, _⟩ := hc
     have := (old (i := i) (a := x) hx).1
     omega
 · intro e
   obtain ⟨op, ho, hoa⟩ := Option.map_eq_some_iff.1 e
   rcases getElem?_append_cases ho with ⟨hlt, ho'⟩ | ⟨_, hm⟩
   · exact h.norel k a hk (by rw [act?_of ho', hoa])
   · exact hr op hm a hoa
/-! ### what goes over with a value, and with a go statement -/
theorem deaf_flat (hu : ∀ op ∈ u, op.act ≠ .mark .disable ∧ op.act ≠ .mark .enable) (g : Nat) : ∀ x, x ≤ u.size → (t ++ u).deaf g (t.size + x) = Deaf t g
 | 0, _ => deaf_old (Nat.le_refl _)
 | x + 1, hx => by
   have hlt : x < u.size := by omega
   have hy : (t ++ u)[t.size + x]? = some u[x] := by rw [Array.getElem?_append_right (by omega)]; simp [hlt]
   have e := deaf_succ (g := g) hy
   rw [deaf_flat hu g x (by omega)] at e
   rw [← Nat.add_assoc, e]
   have := hu u[x] (Array.getElem_mem hlt)
   unfold deafStep
   split
   · rename_i h; exact absurd h this.1
   · rename_i h; exact absurd h this.2
   · rfl
theorem heard_flat (hu : ∀ op ∈ u, op.act ≠ .mark .disable ∧ op.act ≠ .mark .enable) {x : Nat} {op : MemOp} (hx : u[x]? = some op) (hd : Deaf t op.g = 0) : (t ++ u).heard (t.size + x) := by
 have hlt := (Array.getElem?_eq_some_iff.1 hx).1
 refine ⟨op.g, ?_, by rw [deaf_flat hu op.g x (by omega)]; exact hd⟩
 simp [Trace.g?, Array.getElem?_append_right, hx]
theorem Deaf_flat (hu : ∀ op ∈ u, op.act ≠ .mark .disable ∧ op.act ≠ .mark .enable) (g : Nat) : Deaf (t ++ u) g = Deaf t g := by
 have := deaf_flat (t := t) hu g u.size (Nat.le_refl _)
 unfold Deaf at this ⊢
 simpa using this
theorem hand_knows (hu : ∀ op ∈ u, op.act ≠ .mark .disable ∧ op.act ≠ .mark .enable) {p q c k : Nat} {x y : MemOp} (hp : u[p]? = some x) (hx : x.act = .send c k) (hq : u[q]? = some y) (hy : y.act = .recvDone c k)
   (ds : Deaf t x.g = 0) (dr : Deaf t y.g = 0) {i : Nat} (h : Knows t x.g i) : Knows (t ++ u) y.g i := by
 have hp' : (t ++ u)[t.size + p]? = some x := by rw [Array.getElem?_append_right (by omega)]; simpa using hp
 have hq' : (t ++ u)[t.size + q]? = some y := by rw [Array.getElem?_append_right (by omega)]; simpa using hq
 have h1 : HappensBefore (t ++ u) i (t.size + p) := h.hb_new (by omega) hp' rfl
 have h2 : HappensBefore (t ++ u) (t.size + p) (t.size + q) :=
   .single (.inr ⟨.handOver (c := c) (k := k) (by rw [act?_of hp', hx]) (by rw [act?_of hq', hy]), heard_flat hu hp ds, heard_flat hu hq dr⟩)
 exact ⟨t.size + q, y, hq', rfl, .inr (h1.trans h2)⟩
theorem old_touch {i : Nat} {a : Touch} (hu : ∀ op ∈ u, op.act.touch? = none) (h : touchAt (t ++ u) i = some a) : touchAt t i = some a := by
 rcases touchAt_app h with x | ⟨_, op, hop, _, hoa⟩
 · exact x.2
 · rw [hu op hop] at hoa; cases hoa
theorem Tr.give (h : Tr Wg Shun o n Given Fz base j D T0 NC t) {k : Nat} {S : Cells} (hS : ∀ b x, S b x → b < n ∧ o b = 0 ∧ ¬ Given b x ∧ ¬ Fz b)
   (hu : ∀ op ∈ u, op.act.touch? = none) (hr : ∀ op ∈ u, ∀ a, op.act ≠ .mark (.release a)) (hkn : ∀ i, Knows t 0 i → Knows (t ++ u) (base + k) i) : Tr Wg Shun o n (fun b x => Given b x ∨ S b x) Fz base j (Go.ConcN.upd D k ⟨fun b x => (D k).Got b x ∨ S b x, (D k).Rd⟩) T0 NC (t ++ u) := by
 have h' := h.appN hu hr
 refine ⟨h'.clean, h'.seen, h'.seenO, fun a hlt ho hg => h'.main a hlt ho fun x => hg (.inl x), fun i hi a hlt => ?_, h'.sh, h'.ob, h'.acc, h'.over, h'.norel⟩
 by_cases hik : i = k
 · subst hik
   rw [Go.ConcN.upd_same]
   refine ⟨fun ho => ?_, fun hrd => (h'.kid i hi a hlt).2 hrd⟩
   rcases ho with ho | ho | ho
   · exact (h'.kid i hi a hlt).1 (.inl ho)
   · exact (h'.kid i hi a hlt).1 (.inr ho)
   · obtain ⟨_, h0, hg, hf⟩ := hS _ _ ho
     exact fun q x hx hl => hkn q ((h.main a hlt h0 hg).2 hf q x (old_touch hu hx) hl)
 · rw [Go.ConcN.upd_ne _ _ hik]
   exact h'.kid i hi a hlt
theorem Gh.give (hG : Gh Wg Shun o n Given Fz Ch j D) {k : Nat} {S : Cells} (hS : ∀ b x, S b x → b < n ∧ o b = 0 ∧ ¬ Given b x ∧ ¬ Fz b) :
   Gh Wg Shun o n (fun b x => Given b x ∨ S b x) Fz Ch j (Go.ConcN.upd D k ⟨fun b x => (D k).Got b x ∨ S b x, (D k).Rd⟩) := by
 have key : ∀ i, (Go.ConcN.upd D k ⟨fun b x => (D k).Got b x ∨ S b x, (D k).Rd⟩ i).Rd = (D i).Rd := fun i => by
   by_cases hik : i = k
   · subst hik; rw [Go.ConcN.upd_same]
   · rw [Go.ConcN.upd_ne _ _ hik]
 have got : ∀ i b x, (Go.ConcN.upd D k ⟨fun b x => (D k).Got b x ∨ S b x, (D k).Rd⟩ i).Got b x → (D i).Got b x ∨ (i = k ∧ S b x) := fun i b x hh => by
   by_cases hik : i = k
   · subst hik; rw [Go.ConcN.upd_same] at hh; exact hh.imp id fun y => ⟨rfl, y⟩
   · rw [Go.ConcN.upd_ne _ _ hik] at hh; exact .inl hh
 refine ⟨⟨hG.wg.1, hG.wg.2.1, fun x => .inl (hG.wg.2.2.1 x), hG.wg.2.2.2⟩, fun b hb => ⟨(hG.shun b hb).1, (hG.shun b hb).2.1, fun x => .inl ((hG.shun b hb).2.2 x)⟩, fun b hb => ⟨(hG.fz b hb).1, (hG.fz b hb).2.1, fun x hx => hx.elim ((hG.fz b hb).2.2 x) fun y => (hS _ _ y).2.2.2 hb⟩,
   fun c hc => ⟨(hG.ch c hc).1, (hG.ch c hc).2.1, (hG.ch c hc).2.2.1, fun x => .inl ((hG.ch c hc).2.2.2 x)⟩, fun b x hx => hx.elim (hG.given b x) fun y => ⟨(hS _ _ y).1, (hS _ _ y).2.1⟩, fun i hi b x hx => ?_, fun i hi b hb => hG.rd i hi b (by rw [← key i]; exact hb), fun i i' hi hi' hne b x hx hx' => ?_, hG.mine⟩
 · rcases got i b x hx with y | ⟨_, y⟩
   · exact ⟨.inl (hG.got i hi b x y).1, (hG.got i hi b x y).2⟩
   · obtain ⟨h1, h2, h3, h4⟩ := hS _ _ y
     exact ⟨.inr y, fun hs => h3 ((hG.shun b hs).2.2 x), fun e => h3 (e ▸ hG.wg.2.2.1 x), fun hc => h3 ((hG.ch b hc).2.2.2 x)⟩
 · rcases got i b x hx with y | ⟨rfl, y⟩ <;> rcases got i' b x hx' with y' | ⟨rfl, y'⟩
   · exact hG.apart i i' hi hi' hne b x y y'
   · exact (hS _ _ y').2.2.1 (hG.got i hi b x y).1
   · exact (hS _ _ y).2.2.1 (hG.got i' hi' b x y').1
   · exact hne rfl
structure Hand (o : Nat → Nat) (n : Nat) (Given : Cells) (Fz : Nat → Prop) (give : Cells) (rd chs : Nat → Prop) : Prop where
 giv : ∀ b x, give b x → b < n ∧ o b = 0 ∧ ¬ Given b x ∧ ¬ Fz b ∧ ¬ chs b
 red : ∀ b, rd b → b < n ∧ o b = 0 ∧ (∀ x, ¬ Given b x ∧ ¬ give b x) ∧ ¬ chs b
 chn : ∀ c, chs c → c < n ∧ o c = 0 ∧ (∀ x, ¬ Given c x) ∧ ¬ Fz c
theorem Tr.spawn (h : Tr Wg Shun o n Given Fz base j D T0 NC t) {give : Cells} {rd chs : Nat → Prop} (hH : Hand o n Given Fz give rd chs) (hu : ∀ op ∈ u, op.act.touch? = none) (hr : ∀ op ∈ u, ∀ a, op.act ≠ .mark (.release a))
   (hkn : ∀ i, Knows t 0 i → Knows (t ++ u) (base + j) i) (hmine : ∀ b, b < n → o b ≤ j) :
   Tr Wg Shun o n (fun b x => Given b x ∨ give b x ∨ chs b) (fun b => Fz b ∨ rd b) base (j + 1) (Go.ConcN.upd D j ⟨give, rd⟩) T0 NC (t ++ u) := by
 have h' := h.appN hu hr
 refine ⟨h'.clean, h'.seen, h'.seenO, fun a hlt ho hg => ⟨(h'.main a hlt ho fun x => hg (.inl x)).1, fun hf => (h'.main a hlt ho fun x => hg (.inl x)).2 fun x => hf (.inl x)⟩, fun i hi a hlt => ?_,
   fun i a ha hs => ⟨fun hk g hg => ?_, (h'.sh i a ha hs).2⟩, h'.ob, fun i a ha hm => ?_, fun i g hg hne hc => ?_, h'.norel⟩
 · rcases Nat.lt_or_ge i j with hlt' | hge
   · rw [Go.ConcN.upd_ne _ _ (by omega)]
     exact h'.kid i hlt' a hlt
   · obtain rfl : i = j := by omega
     rw [Go.ConcN.upd_same]
     refine ⟨fun ho => ?_, fun hrd => ?_⟩
     · rcases ho with ho | ho
       · have := hmine _ hlt; omega
       · obtain ⟨_, h0, hg, hf, _⟩ := hH.giv _ _ ho
         exact fun q x hx hl => hkn q ((h.main a hlt h0 hg).2 hf q x (old_touch hu hx) hl)
     · obtain ⟨_, h0, hg, _⟩ := hH.red _ hrd
       exact fun q x hx hl hw => hkn q ((h.main a hlt h0 (hg _).1).1 q x (old_touch hu hx) hl hw)
 · rcases hg with rfl | ⟨k, hk', rfl⟩
   · exact (h'.sh i a ha hs).1 hk 0 (.inl rfl)
   · rcases Nat.lt_or_ge k j with hlt' | hge
     · exact (h'.sh i a ha hs).1 hk _ (.inr ⟨k, hlt', rfl⟩)
     · obtain rfl : k = j := by omega
       exact hkn i ((h.sh i a (old_touch hu ha) hs).1 hk 0 (.inl rfl))
 · rcases h'.acc i a ha hm with x | x | ⟨k', hk', x⟩
   · exact .inl x
   · exact .inr (.inl x)
   · exact .inr (.inr ⟨k', by omega, x⟩)
 · rcases h'.over i g hg hne hc with x | ⟨k', hk', x⟩
   · exact .inl x
   · exact .inr ⟨k', by omega, x⟩
theorem Gh.spawn (hG : Gh Wg Shun o n Given Fz Ch j D) {give : Cells} {rd chs : Nat → Prop} (hH : Hand o n Given Fz give rd chs) :
   Gh Wg Shun o n (fun b x => Given b x ∨ give b x ∨ chs b) (fun b => Fz b ∨ rd b) (fun c => Ch c ∨ chs c) (j + 1) (Go.ConcN.upd D j ⟨give, rd⟩) := by
 have case : ∀ i, i < j + 1 → (i < j ∧ Go.ConcN.upd D j ⟨give, rd⟩ i = D i) ∨ (i = j ∧ Go.ConcN.upd D j ⟨give, rd⟩ i = ⟨give, rd⟩) := fun i hi => by
   rcases Nat.lt_or_ge i j with hlt | hge
   · exact .inl ⟨hlt, Go.ConcN.upd_ne _ _ (by omega)⟩
   · obtain rfl : i = j := by omega
     exact .inr ⟨rfl, Go.ConcN.upd_same _ _ _⟩
 refine ⟨⟨hG.wg.1, hG.wg.2.1, fun x => .inl (hG.wg.2.2.1 x), fun hf => ?_, hG.wg.2.2.2.2⟩, fun b hb => ⟨(hG.shun b hb).1, (hG.shun b hb).2.1, fun x => .inl ((hG.shun b hb).2.2 x)⟩, fun b hb => ?_, fun c hc => ?_, fun b x hx => ?_,
   fun i hi b x hx => ?_, fun i hi b hb => ?_, fun i i' hi hi' hne b x hx hx' => ?_, fun b hb => Nat.le_succ_of_le (hG.mine b hb)⟩
 · rcases hf with hf | hf
   · exact hG.wg.2.2.2.1 hf
   · exact ((hH.red _ hf).2.2.1 0).1 (hG.wg.2.2.1 0)
 · rcases hb with hb | hb
   · refine ⟨(hG.fz b hb).1, (hG.fz b hb).2.1, fun x hx => ?_⟩
     rcases hx with hx | hx | hx
     · exact (hG.fz b hb).2.2 x hx
     · exact (hH.giv _ _ hx).2.2.2.1 hb
     · exact (hH.chn _ hx).2.2.2 hb
   · refine ⟨(hH.red b hb).1, (hH.red b hb).2.1, fun x hx => ?_⟩
     rcases hx with hx | hx | hx
     · exact ((hH.red b hb).2.2.1 x).1 hx
     · exact ((hH.red b hb).2.2.1 x).2 hx
     · exact (hH.red b hb).2.2.2 hx
 · rcases hc with hc | hc
   · exact ⟨(hG.ch c hc).1, (hG.ch c hc).2.1, (hG.ch c hc).2.2.1, fun x => .inl ((hG.ch c hc).2.2.2 x)⟩
   · exact ⟨(hH.chn c hc).1, (hH.chn c hc).2.1, fun e => (hH.chn c hc).2.2.1 0 (e ▸ hG.wg.2.2.1 0), fun x => .inr (.inr hc)⟩
 · rcases hx with hx | hx | hx
   · exact hG.given b x hx
   · exact ⟨(hH.giv _ _ hx).1, (hH.giv _ _ hx).2.1⟩
   · exact ⟨(hH.chn _ hx).1, (hH.chn _ hx).2.1⟩
 · rcases case i hi with ⟨hlt, e⟩ | ⟨rfl, e⟩
   · rw [e] at hx
     have := hG.got i hlt b x hx
     exact ⟨.inl this.1, this.2.1, this.2.2.1, fun hc => hc.elim this.2.2.2 fun y => (hH.chn b y).2.2.1 x this.1⟩
   · rw [e] at hx
     obtain ⟨h1, h2, h3, h4, h5⟩ := hH.giv b x hx
     exact ⟨.inr (.inl hx), fun hs => h3 ((hG.shun b hs).2.2 x), fun e' => h3 (e' ▸ hG.wg.2.2.1 x), fun hc => hc.elim (fun y => h3 ((hG.ch b y).2.2.2 x)) h5⟩
 · rcases case i hi with ⟨hlt, e⟩ | ⟨rfl, e⟩
   · rw [e] at hb; exact .inl (hG.rd i hlt b hb)
   · rw [e] at hb; exact .inr hb
 · rcases case i hi with ⟨hlt, e⟩ | ⟨rfl, e⟩ <;> rcases case i' hi' with ⟨hlt', e'⟩ | ⟨rfl, e'⟩ <;> rw [e] at hx <;> rw [e'] at hx'
   · exact hG.apart i i' hlt hlt' hne b x hx hx'
   · exact (hH.giv b x hx').2.2.1 (hG.got i hlt b x hx).1
   · exact (hH.giv b x hx).2.2.1 (hG.got i' hlt' b x hx').1
   · exact hne rfl
theorem Tr.init (hP : Past Shun t n) (hsh : ¬ Shun Wg) :
   Tr Wg Shun (fun _ => 0) n (fun b _ => b < n ∧ (Shun b ∨ b = Wg)) (fun _ => False) base 0 D t.size NC t := by
 refine ⟨hP.clean, hP.seen, hP.seenO, fun a hlt _ hg => ?_, fun i hi => by omega, fun i a ha hs => ?_, fun i a c ha hl _ => ?_, fun i a ha hm => ?_, fun i g hg hne hc => ?_, fun k a hk e => ?_⟩
 · have all : Perm t 0 (.cell a) := fun i x hx hl => by
     rcases hP.known i x hx (by rw [hl]; rfl) with y | ⟨⟨ad, hl', hs⟩, _⟩
     · exact y
     · rw [hl] at hl'; cases hl'; exact absurd ⟨hlt, .inl hs⟩ hg
   exact ⟨fun i x hx hl _ => all i x hx hl, fun _ => all⟩
 · have hk : Knows t 0 i := by
     rcases hP.known i a ha (by rcases hs with ⟨ad, e, _⟩ | ⟨c, e, _⟩ <;> rw [e] <;> rfl) with y | ⟨⟨ad, hl', hsu⟩, _⟩
     · exact y
     · rw [hl'] at hs; exact absurd (Sh.cell hs ▸ hsu) hsh
   exact ⟨fun _ g hg => by
     rcases hg with rfl | ⟨k, hk', _⟩
     · exact hk
     · omega, fun _ => hk⟩
 · rcases hP.known i a ha (by rw [hl]; rfl) with y | ⟨⟨ad, hl', _⟩, _⟩
   · exact y
   · rw [hl] at hl'; cases hl'
 · rcases hP.known i a ha hm with y | ⟨⟨ad, hl', hsu⟩, hkk⟩
   · exact .inl y
   · exact .inr (.inl ⟨⟨ad, hl', .inl hsu⟩, hkk⟩)
 · obtain ⟨q, hq, hh⟩ := hP.over i g hg hne hc
   exact .inl ⟨q, hq, hh⟩
 · have := lt_of_act? e; omega
theorem Gh.init (hs : ∀ b, Shun b → b < n) (hw : Wg < n) (hn : ¬ Shun Wg) : Gh Wg Shun (fun _ => 0) n (fun b _ => b < n ∧ (Shun b ∨ b = Wg)) (fun _ => False) (fun _ => False) 0 D :=
 ⟨⟨hw, rfl, fun _ => ⟨hw, .inr rfl⟩, id, hn⟩, fun b hb => ⟨hs b hb, rfl, fun _ => ⟨hs b hb, .inl hb⟩⟩, fun _ h => h.elim, fun _ h => h.elim, fun b x h => ⟨h.1, rfl⟩, fun i hi => by omega, fun i hi => by omega, fun i _ hi => by omega, fun _ _ => Nat.le_refl _⟩
theorem Tr.past (h : Tr Wg Shun o n Given Fz base j D T0 NC t) {q : Nat} (hq : t.act? q = some (.mark (.acquire (stA Wg)))) (hg : t.g? q = some 0) (hh : t.heard q) (hd : Deaf t 0 = 0)
   (hrel : ∀ k, k < j → ∃ r, T0 ≤ r ∧ r < q ∧ Go.ConcN.RelBy (stA Wg) t (base + k) r ∧ ∀ i a, r < i → t.g? i = some (base + k) → touchAt t i = some a → (∃ ad : Addr, a.loc = .cell ad ∧ ad.block = Wg) ∧ a.kind = .atomic) :
   Past (fun b => Shun b ∨ b = Wg) t n := by
 have edge : ∀ k, k < j → ∀ i, t.g? i = some (base + k) → (∃ q', t.g? q' = some 0 ∧ HappensBefore t i q') ∨ (∃ r, r < i ∧ Go.ConcN.RelBy (stA Wg) t (base + k) r ∧ ∀ a, touchAt t i = some a → (∃ ad : Addr, a.loc = .cell ad ∧ ad.block = Wg) ∧ a.kind = .atomic) := by
   intro k hk i hi
   obtain ⟨r, hTr, hrq, hr, ha⟩ := hrel k hk
   have e : HappensBefore t r q := .single (.inr ⟨.marked hrq (.inr hr.act) hq (fun x hx _ => h.norel x _ (by omega)), hr.heard, hh⟩)
   rcases Nat.lt_trichotomy i r with hlt | rfl | hgt
   · exact .inl ⟨q, hg, .trans (.single (.inl ⟨hlt, _, hi, hr.g⟩)) e⟩
   · exact .inl ⟨q, hg, e⟩
   · exact .inr ⟨r, hgt, hr, fun a => ha i a hgt hi⟩
 refine ⟨h.clean, fun i a ha hm => ?_, fun i g hgi hne hc => ?_, hd, h.seen, h.seenO⟩
 · rcases h.acc i a ha hm with x | ⟨⟨ad, hl, hx⟩, hk⟩ | ⟨k, hk, hgk⟩
   · exact .inl x
   · exact .inr ⟨⟨ad, hl, hx⟩, hk⟩
   · rcases edge k hk i hgk with ⟨q', hq', hb⟩ | ⟨r, _, _, hx⟩
     · obtain ⟨z, hz, hzg⟩ := Option.map_eq_some_iff.1 hq'
       exact .inl ⟨q', z, hz, hzg, .inr hb⟩
     · obtain ⟨⟨ad, hl, hx'⟩, hka⟩ := hx a ha
       exact .inr ⟨⟨ad, hl, .inr hx'⟩, hka⟩
 · rcases h.over i g hgi hne hc with x | ⟨k, hk, rfl⟩
   · exact x
   · rcases edge k hk i hgi with x | ⟨r, hri, hr, _⟩
     · exact x
     · exact absurd hc (hr.after i hri hgi)
end
end Go.Proofs.Ytblpmdolclalnaa
namespace Go.Proofs.Ytblpmdolclalnaa
open Go.Conc
open Go.ConcR (WgAt KK stA smA rd wr mk DC0)
open Go.ConcN (WgLive sumTo upd)
inductive KAct where
 | recv (c : Nat)
 | send (c : Nat) (v : Value)
 | shut (c : Nat)
 | done
inductive MAct where
 | hire
 | send (c : Nat) (v : Value)
 | shut (c : Nat)
 | wait
structure Net where
 S : Type
 M : Type
 act : S → KAct
 mact : M → MAct
 okGot : S → Value → Prop
 okEnd : S → Prop
 got : S → Value → S
 ended : S → S
 next : S → S
 succ : M → M → Prop
 zero : S → Value
 shape : S → CommShape
 mzero : M → Value
 hireS : M → S
 hireGive : M → Cells
 hireRd : M → Nat → Prop
 hireChs : M → List Nat
 gift : Value → Cells
 msg : Value → World → Prop
 Fin : S → World → Prop
 muS : S → Nat
 muM : M → Nat
 I : M → Nat → (Nat → S) → (Nat → Option Bool) → Prop
 fuel : Nat
 Kid : (Nat → Prop) → S → Cells → (Nat → Prop) → Goroutine → World → Prop
 Main : (Nat → Prop) → M → Cells → (Nat → Prop) → Goroutine → World → Prop
 Anch : (Nat → Prop) → M → Cells → (Nat → Prop) → Goroutine → World → Prop
 After : M → Goroutine → World → Prop
def keepK (own : Nat → Prop) (Got : Cells) (Rd : Nat → Prop) : Cells := fun b x => own b ∨ Got b x ∨ Rd b
def writK (own : Nat → Prop) (Got : Cells) : Cells := fun b x => own b ∨ Got b x
def keepM (own : Nat → Prop) (Given : Cells) : Cells := fun b x => own b ∧ ¬ Given b x
def writM (own : Nat → Prop) (Given : Cells) (Fz : Nat → Prop) : Cells := fun b x => own b ∧ ¬ Given b x ∧ ¬ Fz b
def bare (g : Goroutine) : Goroutine := { g with status := .running, offers := none }
section
variable (P : Program) (ty : TypeId) (Wg : Nat)
def RL (w w₁ : World) : Prop := WgLive ty Wg w → WgLive ty Wg w₁
/-! ### a child behind its release -/
def AtD4 (g : Goroutine) (w : World) : Prop :=
 g.status = .running ∧ mayWake P g = true ∧ (WgAt ty Wg w 0 0 → ∃ g', stepG P false g w = .go g' (w.setCell (smA Wg) (.int .u32 1)) (semEvents (smA Wg)) ∧ ∃ q, QuitsD P q 1 g')
def AtD3 (g : Goroutine) (w : World) : Prop :=
 g.status = .running ∧ (WgAt ty Wg w 1 0 → ∃ g', stepG P false g w = .go g' (w.setCell (stA Wg) (.int .u64 0)) #[wr (stA Wg)] ∧ ∃ m, Goes P false (RL ty Wg) DC0 (AtD4 P ty Wg) m g' (w.setCell (stA Wg) (.int .u64 0)))
def AtD2 (g : Goroutine) (w : World) : Prop :=
 g.status = .running ∧ (WgAt ty Wg w 1 0 → ∃ g', stepG P false g w = .go g' w #[rd (stA Wg)] ∧ ∃ m, Goes P false (RL ty Wg) DC0 (AtD3 P ty Wg) m g' w)
def AtD1 (g : Goroutine) (w : World) : Prop :=
 g.status = .running ∧ ∀ v wt : Nat, wt ≤ 1 → v < 2147483647 → WgAt ty Wg w ((v + 1) * KK + wt) 0 →
   ∃ g', stepG P false g w = .go g' (w.setCell (stA Wg) (.int .u64 (v * KK + wt))) #[rd (stA Wg), wr (stA Wg)] ∧
     ((v = 0 ∧ wt = 1) → ∃ m, Goes P false (RL ty Wg) DC0 (AtD2 P ty Wg) m g' (w.setCell (stA Wg) (.int .u64 (v * KK + wt)))) ∧ (¬ (v = 0 ∧ wt = 1) → ∃ q, QuitsD P q 1 g')
def AtK1 (g : Goroutine) (w : World) : Prop :=
 g.status = .running ∧ ∃ g', stepG P false g w = .go g' w #[mk .disable] ∧ ∃ m, Goes P false (RL ty Wg) DC0 (AtD1 P ty Wg) m g' w
variable (N : Net)
/-! ### a child -/
def KR (own : Nat → Prop) (Got : Cells) (Rd : Nat → Prop) : World → World → Prop := Rel ty Wg (keepK own Got Rd)
def KD (own : Nat → Prop) (Got : Cells) (Rd : Nat → Prop) : World → World → Array Event → Prop := Gua false Wg (writK own Got) (keepK own Got Rd)
def KRun (own : Nat → Prop) (s : N.S) (Got : Cells) (Rd : Nat → Prop) (g : Goroutine) (w : World) : Prop :=
 Goo P false own (KR ty Wg own Got Rd) (KD Wg own Got Rd) (N.Kid own s Got Rd) N.fuel g w
def Await (own : Nat → Prop) (s : N.S) (Got : Cells) (Rd : Nat → Prop) (c : Nat) (g : Goroutine) (w : World) : Prop :=
 (∀ v w₁, KR ty Wg own Got Rd w w₁ → N.okGot s v → N.msg v w₁ → (∀ b x, N.gift v b x → ¬ Got b x ∧ ¬ Rd b) → KRun P ty Wg N own (N.got s v) (fun b x => Got b x ∨ N.gift v b x) Rd (g.finishComm P #[rcase c (N.zero s)] (N.shape s) 0 v true) w₁) ∧
 (N.okEnd s → ∀ w₁, KR ty Wg own Got Rd w w₁ → KRun P ty Wg N own (N.ended s) Got Rd (g.finishComm P #[rcase c (N.zero s)] (N.shape s) 0 (N.zero s) false) w₁)
def Offer (own : Nat → Prop) (s : N.S) (Got : Cells) (Rd : Nat → Prop) (c : Nat) (v : Value) (g : Goroutine) (w : World) : Prop :=
 (∀ b x, ¬ N.gift v b x) ∧ ∀ w₁, KR ty Wg own Got Rd w w₁ → N.msg v w₁ ∧ KRun P ty Wg N own (N.next s) Got Rd (g.finishComm P #[scase c v (N.zero s)] .send 0 undef false) w₁
def KStop (own : Nat → Prop) (s : N.S) (Got : Cells) (Rd : Nat → Prop) (g : Goroutine) (w : World) : Prop :=
 g.status = .running ∧ match N.act s with
 | .recv c => stepG P false g w = .comm (bare g) #[rcase c (N.zero s)] true (N.shape s) w #[] ∧ Await P ty Wg N own s Got Rd c (bare g) w
 | .send c v => stepG P false g w = .comm (bare g) #[scase c v (N.zero s)] true .send w #[] ∧ Offer P ty Wg N own s Got Rd c v (bare g) w
 | .shut c => mayWake P g = true ∧ ∀ k, w.heap[c]? = some (.chan 0 #[] false k k false) → ∃ g', g'.status = .running ∧ stepG P false g w = .go g' (w.setChan c 0 #[] true k k false) (closeEvents c) ∧
     KRun P ty Wg N own (N.next s) Got Rd g' (w.setChan c 0 #[] true k k false)
 | .done => (∀ w₁, KR ty Wg own Got Rd w w₁ → N.Fin s w₁) ∧ ∃ g', stepG P false g w = .go g' w #[mk (.releaseMerge (stA Wg))] ∧ ∃ m, Goes P false (RL ty Wg) DC0 (AtK1 P ty Wg) m g' w
/-! ### goroutine 0 -/
def MR (own : Nat → Prop) (Given : Cells) : World → World → Prop := Rel ty Wg (keepM own Given)
def MD (own : Nat → Prop) (Given : Cells) (Fz : Nat → Prop) : World → World → Array Event → Prop := Gua true Wg (writM own Given Fz) (keepM own Given)
def MGoo (own : Nat → Prop) (Given : Cells) (Fz : Nat → Prop) (Stop : Goroutine → World → Prop) (n : Nat) (g : Goroutine) (w : World) : Prop := Goo P true own (MR ty Wg own Given) (MD Wg own Given Fz) Stop n g w
def MRun (own : Nat → Prop) (Q : N.M → Prop) (Given : Cells) (Fz : Nat → Prop) (g : Goroutine) (w : World) : Prop :=
 MGoo P ty Wg own Given Fz (fun g w => ∃ m, Q m ∧ N.Main own m Given Fz g w) N.fuel g w
section
variable (own : Nat → Prop) (m : N.M) (Given : Cells) (Fz : Nat → Prop)
def AtGo (g : Goroutine) (w : World) : Prop :=
 g.status = .running ∧ ∃ g' child, stepG P true g w = .spawn g' child w #[] ∧
   (∀ b x, N.hireGive m b x → b < w.heap.size ∧ own b ∧ ¬ Given b x ∧ ¬ Fz b ∧ b ∉ N.hireChs m) ∧
   (∀ b, N.hireRd m b → b < w.heap.size ∧ own b ∧ (∀ x, ¬ Given b x ∧ ¬ N.hireGive m b x) ∧ b ∉ N.hireChs m) ∧
   (∀ c, c ∈ N.hireChs m → own c ∧ (∀ x, ¬ Given c x) ∧ ¬ Fz c ∧ w.heap[c]? = some (.chan 0 #[] false 0 0 false)) ∧
   (∀ kown, KRun P ty Wg N kown (N.hireS m) (N.hireGive m) (N.hireRd m) child w) ∧
   MRun P ty Wg N own (N.succ m) (fun b x => Given b x ∨ N.hireGive m b x ∨ b ∈ N.hireChs m) (fun b => Fz b ∨ N.hireRd m b) g' w
def AtKe (g : Goroutine) (w : World) : Prop :=
 g.status = .running ∧ ∃ g', stepG P true g w = .go g' w #[mk .enable] ∧ MGoo P ty Wg own Given Fz (AtGo P ty Wg N own m Given Fz) N.fuel g' w
def AtA1 (g : Goroutine) (w : World) : Prop :=
 g.status = .running ∧ ∀ v : Nat, v < 2147483647 → WgAt ty Wg w (v * KK) 0 →
   ∃ g', stepG P true g w = .go g' (w.setCell (stA Wg) (.int .u64 ((v + 1) * KK))) #[rd (stA Wg), wr (stA Wg)] ∧ MGoo P ty Wg own Given Fz (AtKe P ty Wg N own m Given Fz) N.fuel g' (w.setCell (stA Wg) (.int .u64 ((v + 1) * KK)))
def AtKd (g : Goroutine) (w : World) : Prop :=
 g.status = .running ∧ ∃ g', stepG P true g w = .go g' w #[mk .disable] ∧ MGoo P ty Wg own Given Fz (AtA1 P ty Wg N own m Given Fz) N.fuel g' w
def AtAcq (g : Goroutine) (w : World) : Prop :=
 g.status = .running ∧ ∃ g', stepG P true g w = .go g' w #[mk (.acquire (stA Wg))] ∧ N.After m g' w
def AtKw (g : Goroutine) (w : World) : Prop :=
 g.status = .running ∧ ∃ g', stepG P true g w = .go g' w #[mk .enable] ∧ MGoo P ty Wg own Given Fz (AtAcq P Wg N m) N.fuel g' w
def AtW4 (g : Goroutine) (w : World) : Prop :=
 g.status = .running ∧ (WgAt ty Wg w 0 0 → ∃ g', stepG P true g w = .go g' w #[rd (stA Wg)] ∧ MGoo P ty Wg own Given Fz (AtKw P ty Wg N own m Given Fz) N.fuel g' w)
def AtW3 (g : Goroutine) (w : World) : Prop :=
 g.status = .running ∧ g.offers = none ∧ ((∃ st, WgAt ty Wg w st 0) → stepG P true g w = .go { g with status := .blocked } w #[]) ∧
   (WgAt ty Wg w 0 1 → ∃ g', stepG P true g w = .go g' (w.setCell (smA Wg) (.int .u32 0)) (semEvents (smA Wg)) ∧ MGoo P ty Wg own Given Fz (AtW4 P ty Wg N own m Given Fz) N.fuel g' (w.setCell (smA Wg) (.int .u32 0)))
def AtW2 (vs : Nat) (g : Goroutine) (w : World) : Prop :=
 g.status = .running ∧ ∀ v : Nat, v < 2147483648 → WgAt ty Wg w (v * KK) 0 →
   (v = vs → ∃ g', stepG P true g w = .go g' (w.setCell (stA Wg) (.int .u64 (v * KK + 1))) #[rd (stA Wg), wr (stA Wg)] ∧ MGoo P ty Wg own Given Fz (AtW3 P ty Wg N own m Given Fz) N.fuel g' (w.setCell (stA Wg) (.int .u64 (v * KK + 1)))) ∧
   (v ≠ vs → ∃ g', stepG P true g w = .go g' w #[rd (stA Wg)] ∧ MGoo P ty Wg own Given Fz (N.Anch own m Given Fz) N.fuel g' w)
def AtW1 (g : Goroutine) (w : World) : Prop :=
 g.status = .running ∧ ∀ v : Nat, v < 2147483648 → WgAt ty Wg w (v * KK) 0 → ∃ g', stepG P true g w = .go g' w #[rd (stA Wg)] ∧
   (v = 0 → MGoo P ty Wg own Given Fz (AtKw P ty Wg N own m Given Fz) N.fuel g' w) ∧ (v ≠ 0 → MGoo P ty Wg own Given Fz (AtW2 P ty Wg N own m Given Fz v) N.fuel g' w)
def MOffer (c : Nat) (v : Value) (g : Goroutine) (w : World) : Prop :=
 (∀ b x, N.gift v b x → b < w.heap.size ∧ own b ∧ ¬ Given b x ∧ ¬ Fz b) ∧ (∀ w₁, MR ty Wg own Given w w₁ → N.msg v w₁) ∧
 ∀ w₁, MR ty Wg own Given w w₁ → MRun P ty Wg N own (N.succ m) (fun b x => Given b x ∨ N.gift v b x) Fz (g.finishComm P #[scase c v (N.mzero m)] .send 0 undef false) w₁
def MStop (g : Goroutine) (w : World) : Prop :=
 g.status = .running ∧ match N.mact m with
 | .hire => AtKd P ty Wg N own m Given Fz g w
 | .send c v => stepG P true g w = .comm (bare g) #[scase c v (N.mzero m)] true .send w #[] ∧ MOffer P ty Wg N own m Given Fz c v (bare g) w
 | .shut c => mayWake P g = true ∧ ∀ k, w.heap[c]? = some (.chan 0 #[] false k k false) → ∃ g', g'.status = .running ∧ stepG P true g w = .go g' (w.setChan c 0 #[] true k k false) (closeEvents c) ∧
     MRun P ty Wg N own (N.succ m) Given Fz g' (w.setChan c 0 #[] true k k false)
 | .wait => ∃ g', stepG P true g w = .go g' w #[mk .disable] ∧ MGoo P ty Wg own Given Fz (N.Anch own m Given Fz) N.fuel g' w
end
structure NetOK : Prop where
 kid : ∀ own s Got Rd g w, N.Kid own s Got Rd g w → KStop P ty Wg N own s Got Rd g w
 main : ∀ own m Given Fz g w, N.Main own m Given Fz g w → MStop P ty Wg N own m Given Fz g w
 anch : ∀ own m Given Fz g w, N.Anch own m Given Fz g w → g.status = .running ∧ MGoo P ty Wg own Given Fz (AtW1 P ty Wg N own m Given Fz) N.fuel g w
 uniq : ∀ own own' m m' Given Fz g w w' j f cl, N.I m j f cl → N.I m' j f cl → N.Main own m Given Fz g w → N.Main own' m' Given Fz g w' → m = m'
 hire : ∀ m j f cl, N.I m j f cl → N.mact m = .hire → j < 2147483646 ∧ N.muS (N.hireS m) < N.muM m ∧ (∀ i, i < j → N.act (f i) ≠ .done) ∧ (∀ m', N.succ m m' → N.I m' (j + 1) (upd f j (N.hireS m)) (fun c => if c ∈ N.hireChs m then some false else cl c) ∧ N.muM m' + N.muS (N.hireS m) < N.muM m)
 many : ∀ m j f cl, N.I m j f cl → j < 2147483647
 mmeet : ∀ m j f cl c v i, N.I m j f cl → N.mact m = .send c v → i < j → N.act (f i) = .recv c → N.okGot (f i) v ∧ 0 < N.muM m ∧ (∀ m', N.succ m m' → N.I m' j (upd f i (N.got (f i) v)) cl ∧ N.muM m' < N.muM m)
 kmeet : ∀ m j f cl c v i k, N.I m j f cl → i < j → k < j → i ≠ k → N.act (f i) = .send c v → N.act (f k) = .recv c → N.okGot (f k) v ∧ N.I m j (upd (upd f i (N.next (f i))) k (N.got (f k) v)) cl
 ends : ∀ m j f cl c i, N.I m j f cl → i < j → N.act (f i) = .recv c → cl c = some true → N.okEnd (f i) ∧ N.I m j (upd f i (N.ended (f i))) cl
 mshut : ∀ m j f cl c, N.I m j f cl → N.mact m = .shut c → cl c = some false ∧ (∀ i v, i < j → N.act (f i) ≠ .send c v) ∧ 0 < N.muM m ∧ (∀ m', N.succ m m' → N.I m' j f (upd cl c (some true)) ∧ N.muM m' < N.muM m)
 kshut : ∀ m j f cl c i, N.I m j f cl → i < j → N.act (f i) = .shut c → cl c = some false ∧ (∀ k v, k < j → N.act (f k) ≠ .send c v) ∧ (∀ v, N.mact m ≠ .send c v) ∧ N.I m j (upd f i (N.next (f i))) (upd cl c (some true))
 chans : ∀ m j f cl, N.I m j f cl → (∀ c v, N.mact m = .send c v → cl c = some false) ∧ ∀ i, i < j → (∀ c, N.act (f i) = .recv c → cl c ≠ none) ∧ ∀ c v, N.act (f i) = .send c v → cl c = some false
 prog : ∀ m j f cl, N.I m j f cl → (∀ i, i < j → (∃ c, N.act (f i) = .recv c ∧ cl c = some false) ∨ (∃ c v, N.act (f i) = .send c v) ∨ N.act (f i) = .done) → ((∃ c v, N.mact m = .send c v) ∨ N.mact m = .wait) →
   (∀ i k c v, i < j → k < j → N.act (f i) = .recv c → N.act (f k) ≠ .send c v) → (∀ i c v, i < j → N.act (f i) = .recv c → N.mact m ≠ .send c v) → N.mact m = .wait ∧ ∀ i, i < j → N.act (f i) = .done
 some : ∀ m, N.mact m ≠ .wait → ∃ m', N.succ m m'
 less : ∀ s v, N.okGot s v → N.muS (N.got s v) < N.muS s
 lessE : ∀ s, N.okEnd s → N.muS (N.ended s) < N.muS s
 lessN : ∀ s, (∀ c, N.act s ≠ .recv c) → N.act s ≠ .done → N.muS (N.next s) < N.muS s
end
end Go.Proofs.Ytblpmdolclalnaa
namespace Go.Proofs.Ytblpmdolclalnaa
open Go.Conc
open Go.ConcN (upd upd_same upd_ne)
structure PP where
 nf : Nat
 K : Nat
 c0 : Nat
 n : Nat
 phi : Nat → Value → Value
 okV : Value → Prop
inductive KPh where
 | recv
 | send (v : Value)
 | shut
 | done
structure KS where
 kd : Nat
 cin : Nat
 cout : Nat
 env : List Nat
 ph : KPh
 got : List Value
inductive MS where
 | hire (p cin cout : Nat) (env : List Nat)
 | send (sent : List Value) (v : Value)
 | shut (sent : List Value)
 | wait (sent : List Value)
namespace PP
variable (pp : PP)
def act (s : KS) : KAct := match s.ph with | .recv => .recv s.cin | .send v => .send s.cout v | .shut => .shut s.cout | .done => .done
def mact : MS → MAct | .hire .. => .hire | .send _ v => .send pp.c0 v | .shut _ => .shut pp.c0 | .wait _ => .wait
def gotS (s : KS) (v : Value) : KS := { s with ph := if s.kd < pp.nf then .send (pp.phi s.kd v) else .recv, got := s.got ++ [v] }
def endS (s : KS) : KS := { s with ph := if s.kd < pp.nf then .shut else .done }
def nextS (s : KS) : KS := { s with ph := match s.ph with | .send _ => .recv | .shut => .done | x => x }
def okGot (s : KS) (v : Value) : Prop := pp.okV v ∧ s.got.length < pp.n ∧ s.ph = .recv
def okEnd (s : KS) : Prop := s.ph = .recv
def hireS : MS → KS
 | .hire p ci co e => ⟨p, ci, co, e, .recv, []⟩
 | _ => ⟨0, 0, 0, [], .recv, []⟩
def hireChs : MS → List Nat
 | .hire p _ co _ => (if p = 0 then [pp.c0] else []) ++ (if p < pp.nf then [co] else [])
 | _ => []
def sent : MS → List Value | .hire .. => [] | .send l _ => l | .shut l => l | .wait l => l
def begun (l : List Value) (m : MS) : Prop := (∃ v, m = .send l v ∧ pp.okV v ∧ l.length < pp.n) ∨ (m = .shut l)
def succ : MS → MS → Prop
 | .hire p _ co _, m' => (p + 1 < pp.nf + pp.K ∧ ∃ co' e', m' = .hire (p + 1) (if p < pp.nf then co else pp.c0) co' e' ∧ (p + 1 < pp.nf → co < co')) ∨ (pp.nf + pp.K ≤ p + 1 ∧ pp.begun [] m')
 | .send l v, m' => pp.begun (l ++ [v]) m'
 | .shut l, m' => m' = .wait l
 | .wait _, _ => False
def wgt : KPh → Nat | .send _ => 3 | .recv => 2 | .shut => 1 | .done => 0
def muS (s : KS) : Nat := 4 * (pp.n - s.got.length) + wgt s.ph
def muM : MS → Nat
 | .hire p _ _ _ => (pp.nf + pp.K - p) * (4 * pp.n + 4) + (pp.n + 4)
 | .send l _ => pp.n - l.length + 3
 | .shut _ => 2
 | .wait _ => 1
def chIn (f : Nat → KS) : Nat → Nat | 0 => pp.c0 | s + 1 => (f s).cout
def outs (i : Nat) (s : KS) : List Value := match s.ph with | .send _ => (s.got.map (pp.phi i)).dropLast | _ => s.got.map (pp.phi i)
def stream (l : List Value) (f : Nat → KS) : Nat → List Value | 0 => l | s + 1 => pp.outs s (f s)
def isDone : KPh → Bool | .done => true | _ => false
def isWait : MS → Bool | .wait _ => true | _ => false
structure Inv (m : MS) (j : Nat) (f : Nat → KS) (cl : Nat → Option Bool) : Prop where
 cnt : ∀ p ci co e, m = .hire p ci co e → p = j ∧ p < pp.nf + pp.K ∧ ci = pp.chIn f (min p pp.nf) ∧ (p < pp.nf → ci < co)
 all : (∀ p ci co e, m ≠ .hire p ci co e) → j = pp.nf + pp.K
 le : j ≤ pp.nf + pp.K
 idle : ∀ p ci co e, m = .hire p ci co e → ∀ i, i < j → (f i).ph = .recv ∧ (f i).got = []
 kd : ∀ i, i < j → (f i).kd = i
 ins : ∀ i, i < j → (f i).cin = pp.chIn f (min i pp.nf)
 up : ∀ i, i < j → i < pp.nf → pp.chIn f i < pp.chIn f (i + 1)
 cz : cl pp.c0 = if j = 0 then none else some (isWait m)
 cs : ∀ i, i < j → i < pp.nf → cl (f i).cout = some (isDone (f i).ph)
 cn : ∀ c, c ≠ pp.c0 → (∀ i, i < j → i < pp.nf → c ≠ (f i).cout) → cl c = none
 shutd : ∀ i, i < j → ((f i).ph = .shut ∨ (f i).ph = .done) → cl (f i).cin = some true
 sink : ∀ i, i < j → pp.nf ≤ i → (f i).ph = .recv ∨ (f i).ph = .done
 snd : ∀ i v, i < j → (f i).ph = .send v → ∃ l x, (f i).got = l ++ [x] ∧ v = pp.phi i x
 len : (sent m).length ≤ pp.n
 msg : ∀ l v, m = .send l v → l.length < pp.n ∧ pp.okV v
 gots : ∀ i, i < j → (f i).got.length ≤ (sent m).length ∧ ∀ x ∈ (f i).got, pp.okV x
 data1 : ∀ i, i < j → (i < pp.nf ∨ pp.K = 1) → (f i).got = pp.stream (sent m) f (min i pp.nf)
 data2 : pp.nf = 0 → ∀ v, v ∈ sent m ↔ ∃ i, i < j ∧ v ∈ (f i).got
variable {pp} {m : MS} {j : Nat} {f f' : Nat → KS} {cl : Nat → Option Bool}
theorem chIn_congr (h : ∀ i, (f' i).cout = (f i).cout) (s : Nat) : pp.chIn f' s = pp.chIn f s := by cases s <;> simp [chIn, h]
theorem Inv.mono (h : pp.Inv m j f cl) : ∀ {a b : Nat}, a < b → b ≤ j → b ≤ pp.nf → pp.chIn f a < pp.chIn f b := by
 intro a b hab
 induction hab with
 | refl => exact fun h1 h2 => h.up a (by omega) (by omega)
 | step _ ih => exact fun h1 h2 => Nat.lt_trans (ih (by omega) (by omega)) (h.up _ (by omega) (by omega))
theorem Inv.inj (h : pp.Inv m j f cl) {a b : Nat} (ha : a ≤ j) (hb : b ≤ j) (ha' : a ≤ pp.nf) (hb' : b ≤ pp.nf) (e : pp.chIn f a = pp.chIn f b) : a = b := by
 rcases Nat.lt_trichotomy a b with x | x | x
 · exact absurd e (Nat.ne_of_lt (h.mono x hb hb'))
 · exact x
 · exact absurd e.symm (Nat.ne_of_lt (h.mono x ha ha'))
theorem act_recv {s : KS} {c : Nat} (h : act s = .recv c) : s.ph = .recv ∧ s.cin = c := by
 unfold act at h; split at h <;> simp_all
theorem act_send {s : KS} {c : Nat} {v : Value} (h : act s = .send c v) : s.ph = .send v ∧ s.cout = c := by
 unfold act at h; split at h <;> simp_all
theorem act_shut {s : KS} {c : Nat} (h : act s = .shut c) : s.ph = .shut ∧ s.cout = c := by
 unfold act at h; split at h <;> simp_all
theorem act_done {s : KS} (h : act s = .done) : s.ph = .done := by
 unfold act at h; split at h <;> simp_all
theorem mact_send {c : Nat} {v : Value} (h : pp.mact m = .send c v) : c = pp.c0 ∧ ∃ l, m = .send l v := by
 cases m <;> simp_all [mact]
theorem mact_hire (h : pp.mact m = .hire) : ∃ p ci co e, m = .hire p ci co e := by cases m <;> simp_all [mact]
theorem mact_shut {c : Nat} (h : pp.mact m = .shut c) : c = pp.c0 ∧ ∃ l, m = .shut l := by cases m <;> simp_all [mact]
theorem mact_wait (h : pp.mact m = .wait) : ∃ l, m = .wait l := by cases m <;> simp_all [mact]
theorem Inv.who (h : pp.Inv m j f cl) {i k : Nat} (hi : i < j) (hk : k < j) (hif : i < pp.nf) (e : (f k).cin = (f i).cout) : (k = i + 1 ∧ k < pp.nf) ∨ (pp.nf ≤ k ∧ i + 1 = pp.nf) := by
 have h1 := h.ins k hk
 rw [h1] at e
 have e' : pp.chIn f (min k pp.nf) = pp.chIn f (i + 1) := e
 have := h.inj (a := min k pp.nf) (b := i + 1) (by omega) (by omega) (by omega) (by omega) e'
 omega
theorem Inv.send_lt (h : pp.Inv m j f cl) {i : Nat} {v : Value} (hi : i < j) (e : (f i).ph = .send v) : i < pp.nf := by
 rcases Nat.lt_or_ge i pp.nf with x | x
 · exact x
 · rcases h.sink i hi x with y | y <;> rw [y] at e <;> cases e
theorem Inv.shut_lt (h : pp.Inv m j f cl) {i : Nat} (hi : i < j) (e : (f i).ph = .shut) : i < pp.nf := by
 rcases Nat.lt_or_ge i pp.nf with x | x
 · exact x
 · rcases h.sink i hi x with y | y <;> rw [y] at e <;> cases e
theorem Inv.c0_ne (h : pp.Inv m j f cl) {i : Nat} (hi : i < j) (hif : i < pp.nf) : pp.c0 ≠ (f i).cout := fun e => by
 have := h.mono (a := 0) (b := i + 1) (by omega) (by omega) (by omega)
 simp only [chIn] at this
 omega
theorem Inv.c0_in (h : pp.Inv m j f cl) {i : Nat} (hi : i < j) (e : (f i).cin = pp.c0) : i = 0 ∨ pp.nf = 0 := by
 have h1 := h.ins i hi
 rw [h1] at e
 have := h.inj (a := min i pp.nf) (b := 0) (by omega) (by omega) (by omega) (by omega) e
 omega
end PP
end Go.Proofs.Ytblpmdolclalnaa
