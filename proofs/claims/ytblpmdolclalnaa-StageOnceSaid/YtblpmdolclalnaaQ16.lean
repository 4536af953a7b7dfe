/- Chain[int]: the net is as the theorem of a phase asks. Goroutine 0 alone beside leavers: pieces of its way, one behind the other; conditions: each piece's own. The protocol of a chain: what the last one has had when all are done. Chain[int]: the call's phase, from ahead of the loop over the functions to the end of Wait. Made by gen_cmk.py. Goroutine 0 alone: laws of its .. -/
import Derived.Test.YtblpmdolclalnaaQ02
import Derived.Test.YtblpmdolclalnaaQ03
import Derived.Test.YtblpmdolclalnaaQ08
import Derived.Test.YtblpmdolclalnaaQ09
import Derived.Test.YtblpmdolclalnaaQ10
import Derived.Test.YtblpmdolclalnaaQ15
set_option maxHeartbeats 16000000
set_option linter.unusedSimpArgs false
set_option linter.unusedVariables false
namespace Go.Proofs.Ytblpmdolclalnaa
open Go.Conc
open Go.ConcR (WgAt KK stA smA rd wr mk DC0)
open Go.ConcN (WgLive)
section
variable {m : ChM} {own : Nat → Prop} {Given : Cells} {Fz : Nat → Prop} {p kl cap e7 e8 ci co e13 l d i : Nat} {sa : Option Addr} {w w₁ : World} {g : Goroutine} {me : ME} {env en : List Nat}
theorem mainC_fwd (hm : ChMOK m) (hp : p < m.q.nf) (h : HireF m own Given Fz p ci co env g w) : MStop Try.prog 66 m.q.Wg (netC m) own (.hire p ci co env, en) Given Fz g w := by
 obtain ⟨T, e7, e8, e10, e11, e12, rfl, hT, hg, _, hlt, hA⟩ := h
 refine ⟨hA.1, ?_⟩
 show AtKd _ _ _ _ _ _ _ _ _ _
 have hgv : (fleshC m).give (.hire p ci co [e12, e11, e10]) = m.gv p := by show giveC m (.hire p ci co [e12, e11, e10]) = _; simp [giveC, hp]
 have hrd : (fleshC m).reads (.hire p ci co [e12, e11, e10]) = fun b => b ∈ [e12, e11, e10] ∨ m.rdx p b := by show readC m (.hire p ci co [e12, e11, e10]) = _; simp only [readC, if_pos hp]
 refine kd_net (nT := 12) (fun w hF => go_fwd hm (fleshC_ok m) hgv hrd hg hp hT (fun g' w' hg' hh => ?_) w hF) (by show 12 + 3 ≤ m.q.nfuel + 500; omega) (by show 110 ≤ m.q.nfuel + 500; omega) hA
 refine Goo.mono ((head_any hm hg' (by omega) hh).imp fun g w h => ?_) (by omega)
 obtain ⟨co', env', hlt', hM⟩ := h
 refine ⟨(.hire (p + 1) co co' env', []), ⟨.inl ⟨by show p + 1 < m.q.nf + 1; omega, co', env', ?_, hlt'⟩, rfl⟩, hM⟩
 have : p < m.q.pp.nf := hp
 simp [this]
theorem mainC_snk (hm : ChMOK m) (h : HireS m own Given Fz ci env g w) : MStop Try.prog 66 m.q.Wg (netC m) own (.hire m.q.nf ci 0 env, en) Given Fz g w := by
 obtain ⟨T, e7, e8, e13, rfl, hT, hg, hA⟩ := h
 obtain ⟨kl, sa, cap, hi⟩ := hm.it
 refine ⟨hA.1, ?_⟩
 show AtKd _ _ _ _ _ _ _ _ _ _
 have hgv : (fleshC m).give (.hire m.q.nf ci 0 [e8, e13]) = fun b y => b = e13 ∧ y = 0 := by show giveC m (.hire m.q.nf ci 0 [e8, e13]) = _; simp only [giveC, if_neg (Nat.lt_irrefl _)]
 have hrd : (fleshC m).reads (.hire m.q.nf ci 0 [e8, e13]) = fun b => b = e8 := by show readC m (.hire m.q.nf ci 0 [e8, e13]) = _; simp only [readC, if_neg (Nat.lt_irrefl _)]
 refine kd_net (nT := 12) (fun w hF => go_snk hm (fleshC_ok m) hgv hrd hg hT hi (fun g' w' hg' hh => ?_) w hF) (by show 12 + 3 ≤ m.q.nfuel + 500; omega) (by show 110 ≤ m.q.nfuel + 500; omega) hA
 refine Goo.mono ((iter_any hm hi hg' (Nat.zero_le _) hh).imp fun g w h => ?_) (by omega)
 obtain ⟨ms, hb, hM⟩ := h
 refine ⟨(ms, [e8, e13]), ⟨.inr ⟨Nat.le_refl _, by simpa using hb⟩, ?_⟩, hM⟩
 have : isHire ms = false := by rcases hb with ⟨v, rfl, _⟩ | rfl <;> rfl
 show [e8, e13] = lastE _ ms en
 unfold lastE
 rw [if_neg (by simp [this])]
theorem mainC_send (hm : ChMOK m) {sent : List Value} {v : Value} (h : MainC m own (.send sent v, en) Given Fz g w) : MStop Try.prog 66 m.q.Wg (netC m) own (.send sent v, en) Given Fz g w := by
 obtain ⟨kl, sa, cap, e7, e8, e13, i, hi, rfl, rfl, hv, hg, U, T, T', l, d, ci, hU, hT, hT', rfl, hF⟩ := h
 have hlt : i < m.xs.length := (List.getElem?_eq_some_iff.1 hv).1
 refine ⟨rfl, ?_, fun b y h => h.elim, fun _ _ => trivial, fun w₁ h₁ => ?_⟩
 · have hr : (execOp (⟨T', []⟩ : Act).eval { dst := none, op := .send (.tmp 44) (.tmp 45), type := 0, pos := "stage.go:81", after := #[{ on := 0, ground := .data }, { on := 1, ground := .data }], guard := none }).run Try.prog w = .ok (.comm #[scase m.q.c0 v (.tuple #[])] true .send) w := by
     simp [execOp, Act.eval, hT'.t44, hT'.t45, scase]
   have he : (execOp (⟨T', []⟩ : Act).eval { dst := none, op := .send (.tmp 44) (.tmp 45), type := 0, pos := "stage.go:81", after := #[{ on := 0, ground := .data }, { on := 1, ground := .data }], guard := none }).events Try.prog w #[] = #[] := by
     simp [execOp, Act.eval, hT'.t44, hT'.t45]
   exact (stepGR_comm (o := { dst := none, op := .send (.tmp 44) (.tmp 45), type := 0, pos := "stage.go:81", after := #[{ on := 0, ground := .data }, { on := 1, ground := .data }], guard := none }) rfl rfl (by intro c; simp) (by intro h; cases h) hr).trans (by rw [listed_none he]; rfl)
 · show MRun _ _ _ _ _ _ (fun b y => Given b y ∨ noGift v b y) _ _ _
   rw [noGift_or]
   have hF' := hF.rely hg h₁
   refine MRun.of (Stop := AtIter m own Given Fz kl e7 e8 e13 (i + 1)) (n := 40) (k := 70) ?_ (fun g w h => ?_) (by show 70 + 40 ≤ m.q.nfuel + 500; omega)
   · have e : bare (G ((rnd 16 l).atR ⟨T', []⟩ (.inRegion ops19 [2] :: [.inBlock 3])) ((base 32).at ⟨U, []⟩ (.inRegion ops32 [5, 6] :: k32) :: f16R T l d :: m.cs)) = G ((rnd 16 l).atR ⟨T', []⟩ (.inRegion ops19 [2] :: [.inBlock 3])) ((base 32).at ⟨U, []⟩ (.inRegion ops32 [5, 6] :: k32) :: f16R T l d :: m.cs) := rfl
     rw [e, finish_sendR]
     exact send_back hm hg hlt hU hT hF'
   · refine (iter_any hm hi hg hlt h).imp fun g w h => ?_
     obtain ⟨ms, hb, hM⟩ := h
     have ht : m.xs.take (i + 1) = m.xs.take i ++ [v] := by rw [List.take_add_one, hv]; rfl
     refine ⟨(ms, [e8, e13]), ⟨by show m.q.pp.begun (m.xs.take i ++ [v]) ms; rw [← ht]; exact hb, ?_⟩, hM⟩
     have : isHire ms = false := by rcases hb with ⟨v, rfl, _⟩ | rfl <;> rfl
     show [e8, e13] = lastE _ ms _
     unfold lastE
     rw [if_neg (by simp [this])]
theorem loud16 : (Try.prog.funcs[(base 16).fn]?).any (·.norace) = false := by kernel_rfl
theorem mainC_shut (hm : ChMOK m) {sent : List Value} (h : MainC m own (.shut sent, en) Given Fz g w) : MStop Try.prog 66 m.q.Wg (netC m) own (.shut sent, en) Given Fz g w := by
 obtain ⟨e7, e8, e13, rfl, rfl, hg, T, l, d, ci, hT, t46, rfl, hF⟩ := h
 refine ⟨rfl, rfl, fun k hc => ?_⟩
 have h46 : ((⟨T, markD d⟩ : Act).eval (.tmp 46)) = .chan (some m.q.c0) := by simp [Act.eval, t46]
 have hop := shut_op (P := Try.prog) (a := ⟨T, markD d⟩) (w := w) (o := { dst := none, op := .call { callee := .builtin .close, args := #[.tmp 46], argTypes := #[75] }, type := 0, pos := "stage.go:83", after := #[{ on := 0, ground := .data }], guard := none }) rfl h46 hc
 refine ⟨G ((base 16).at ⟨T, markD d⟩ (.inRegion ops20 [] :: [.code (tl16 11)])) m.cs, rfl, ?_, ?_⟩
 · refine (stepG_value (o := { dst := none, op := .call { callee := .builtin .close, args := #[.tmp 46], argTypes := #[75] }, type := 0, pos := "stage.go:83", after := #[{ on := 0, ground := .data }], guard := none }) rfl rfl (by decide) hop.1).trans ?_
   have hs : seen Try.prog (base 16).fn (closeEvents m.q.c0) = closeEvents m.q.c0 := seen_eq loud16 (by intro e he f; simp only [closeEvents, List.mem_toArray, List.mem_cons, List.not_mem_nil, or_false] at he; rcases he with rfl | rfl <;> simp)
   unfold listed
   rw [hop.2, hs]
   rfl
 · exact Goo.mono (n := 20) ((to_wait hg hT (hF.chan hm hc)).imp fun g w h => ⟨(.wait m.xs, [e8, e13]), ⟨rfl, rfl⟩, e7, e8, e13, rfl, rfl, hg, h⟩) (by show 20 ≤ m.q.nfuel + 500; omega)
theorem mainC_wait {sent : List Value} (h : MainC m own (.wait sent, en) Given Fz g w) : MStop Try.prog 66 m.q.Wg (netC m) own (.wait sent, en) Given Fz g w := by
 obtain ⟨e7, e8, e13, rfl, rfl, hg, T, l, d, ci, hT, hr, _, g', h1, h2⟩ := h
 exact ⟨hr, g', h1, Goo.mono (n := 4) ((Goo.of_goes h2).imp fun g w h => ⟨e7, e8, e13, T, l, d, ci, rfl, rfl, hg, hT, h⟩) (by show 4 ≤ m.q.nfuel + 500; omega)⟩
theorem mainC_all (hm : ChMOK m) (h : MainC m own me Given Fz g w) : MStop Try.prog 66 m.q.Wg (netC m) own me Given Fz g w := by
 obtain ⟨ms, en⟩ := me
 cases ms with
 | hire p ci co env =>
   obtain ⟨_, ⟨hp, h⟩ | ⟨rfl, rfl, h⟩⟩ := h
   · exact mainC_fwd hm hp h
   · exact mainC_snk hm h
 | send sent v => exact mainC_send hm h
 | shut sent => exact mainC_shut hm h
 | wait sent => exact mainC_wait h
theorem anch_all (h : AnchC m own me Given Fz g w) : g.status = .running ∧ MGoo Try.prog 66 m.q.Wg own Given Fz (AtW1 Try.prog 66 m.q.Wg (netC m) own me Given Fz) (m.q.nfuel + 500) g w := by
 obtain ⟨ms, en⟩ := me
 cases ms with
 | wait sent =>
   obtain ⟨e7, e8, e13, T, l, d, ci, rfl, rfl, hg, hT, h⟩ := h
   refine ⟨?_, Goo.mono (n := 30) ((Goo.of_goes (wg_round Try.wgLib (fits_RE hg) g w h)).imp fun g w h => ?_) (by omega)⟩
   · obtain ⟨_, rfl, _⟩ := h; rfl
   · exact w1_net (fun g w hF hB => ⟨own, Given, Fz, e7, e8, e13, T, l, d, ci, rfl, rfl, hg, hT, hF, hB⟩) (fun g w h => ⟨e7, e8, e13, T, l, d, ci, rfl, rfl, hg, hT, h⟩) (by show 70 ≤ m.q.nfuel + 500; omega) h
 | _ => exact h.elim
theorem cl_eq {fr fr' : Frame} {cl cl' : List Frame} (h : G fr cl = G fr' cl') : fr = fr' ∧ cl = cl' := by
 unfold G at h
 injection h with h1 h2
 exact ⟨h1, h2⟩
theorem at_tmps {b : Frame} {T T' : Array Value} {ds ds' : List Deferred} {k k' : List Item} (h : b.at ⟨T, ds⟩ k = b.at ⟨T', ds'⟩ k') : T = T' := congrArg Frame.tmps h
theorem atR_tmps {b b' : Frame} {T T' : Array Value} {ds ds' : List Deferred} {k k' : List Item} (h : b.atR ⟨T, ds⟩ k = b'.atR ⟨T', ds'⟩ k') : T = T' := congrArg Frame.tmps h
theorem some_ptr {T : Array Value} {i a b : Nat} (h : T[i]? = some (ptr a)) (h' : T[i]? = some (ptr b)) : a = b := by
 rw [h] at h'
 simpa using h'
theorem sent_eq {ms ms' : MS} {j : Nat} {f : Nat → KS} {cl : Nat → Option Bool} (h : m.q.pp.Inv ms j f cl) (h' : m.q.pp.Inv ms' j f cl) (hn : ∀ p ci co e, ms ≠ .hire p ci co e) : PP.sent ms = PP.sent ms' := by
 have hj := h.all hn
 have e1 := h.data1 0 (by rw [hj]; show 0 < m.q.nf + 1; omega) (.inr rfl)
 have e2 := h'.data1 0 (by rw [hj]; show 0 < m.q.nf + 1; omega) (.inr rfl)
 rw [e1] at e2
 simpa [PP.stream] using e2
theorem en_eq {ms ms' : MS} {en en' : List Nat} {j : Nat} {f : Nat → KS} {cl : Nat → Option Bool} (h : m.q.pp.InvE (ms, en) j f cl) (h' : m.q.pp.InvE (ms', en') j f cl) (hn : isHire ms = false) (hn' : isHire ms' = false) : en = en' := by
 obtain ⟨i, h1, h2⟩ := h.last hn
 obtain ⟨i', h3, h4⟩ := h'.last hn'
 obtain rfl : i = i' := by omega
 exact h2.symm.trans h4
theorem not_both {p ci co : Nat} {env : List Nat} {ms : MS} {j : Nat} {f : Nat → KS} {cl : Nat → Option Bool} (h : m.q.pp.Inv (.hire p ci co env) j f cl) (h' : m.q.pp.Inv ms j f cl) (hn : ∀ p ci co e, ms ≠ .hire p ci co e) : False := by
 have h1 := h'.all hn
 obtain ⟨h2, h3, _⟩ := h.cnt _ _ _ _ rfl
 omega
theorem wait_not {sent : List Value} {ms : MS} {j : Nat} {f : Nat → KS} {cl : Nat → Option Bool} (h : m.q.pp.Inv (.wait sent) j f cl) (h' : m.q.pp.Inv ms j f cl) (hn : ∀ p ci co e, ms ≠ .hire p ci co e) (hw : PP.isWait ms = false) : False := by
 have h1 := h'.all hn
 have e1 := h.cz
 have e2 := h'.cz
 rw [e1] at e2
 have : ¬ j = 0 := by rw [h1]; show ¬ m.q.nf + 1 = 0; omega
 rw [if_neg this, if_neg this, hw] at e2
 cases Option.some.inj e2
theorem send_shut {sent sent' : List Value} {v : Value} {own' : Nat → Prop} {en' : List Nat} {w' : World} (h : MainC m own (.send sent v, en) Given Fz g w) (h' : MainC m own' (.shut sent', en') Given Fz g w') : False := by
 obtain ⟨_, _, _, _, _, _, _, _, _, _, _, _, _, _, _, _, _, _, _, _, _, rfl, _⟩ := h
 obtain ⟨_, _, _, _, _, _, _, _, _, _, _, _, h', _⟩ := h'
 have := congrArg Frame.roundOf (cl_eq h').1
 cases this
theorem uniq_all {own' : Nat → Prop} {me' : ME} {w' : World} {j : Nat} {f : Nat → KS} {cl : Nat → Option Bool} (i1 : m.q.pp.InvE me j f cl) (i2 : m.q.pp.InvE me' j f cl) (h : MainC m own me Given Fz g w) (h' : MainC m own' me' Given Fz g w') : me = me' := by
 obtain ⟨ms, en⟩ := me
 obtain ⟨ms', en'⟩ := me'
 cases ms with
 | hire p ci co env =>
   cases ms' with
   | hire p' ci' co' env' =>
     obtain ⟨rfl, h⟩ := h
     obtain ⟨rfl, h'⟩ := h'
     obtain ⟨rfl, _, c1, _⟩ := i1.inv.cnt _ _ _ _ rfl
     obtain ⟨rfl, _, c2, _⟩ := i2.inv.cnt _ _ _ _ rfl
     obtain rfl : ci = ci' := c1.trans c2.symm
     rcases h with ⟨hp, h⟩ | ⟨hp, rfl, h⟩
     · rcases h' with ⟨_, h'⟩ | ⟨hp', _⟩
       · obtain ⟨T, e7, e8, e10, e11, e12, rfl, hT, _, _, _, _, ⟨fr, rfl⟩, _⟩ := h
         obtain ⟨T', e7', e8', e10', e11', e12', rfl, hT', _, _, _, _, ⟨fr', hfr⟩, _⟩ := h'
         have hT2 := at_tmps (List.cons.inj (cl_eq hfr).2).1
         subst hT2
         obtain rfl := some_ptr hT.t10 hT'.t10
         obtain rfl := some_ptr hT.t11 hT'.t11
         obtain rfl := some_ptr hT.t12 hT'.t12
         have := hT.t35
         rw [hT'.t35] at this
         obtain rfl : co' = co := by simpa using this
         rfl
       · omega
     · rcases h' with ⟨hp', _⟩ | ⟨_, rfl, h'⟩
       · omega
       · obtain ⟨T, e7, e8, e13, rfl, hT, _, _, ⟨fr, rfl⟩, _⟩ := h
         obtain ⟨T', e7', e8', e13', rfl, hT', _, _, ⟨fr', hfr⟩, _⟩ := h'
         have hT2 := at_tmps (List.cons.inj (cl_eq hfr).2).1
         subst hT2
         obtain rfl := some_ptr hT.t8 hT'.t8
         obtain rfl := some_ptr hT.t13 hT'.t13
         rfl
   | _ => exact (not_both i1.inv i2.inv (fun _ _ _ _ x => by cases x)).elim
 | send sent v =>
   cases ms' with
   | hire p' ci' co' env' => exact (not_both i2.inv i1.inv (fun _ _ _ _ x => by cases x)).elim
   | send sent' v' =>
     obtain rfl := en_eq i1 i2 rfl rfl
     obtain rfl : sent = sent' := sent_eq i1.inv i2.inv (fun _ _ _ _ x => by cases x)
     obtain ⟨_, _, _, _, _, _, _, _, _, _, _, _, U, T, T1, l, d, ci, _, _, hr, rfl, _⟩ := h
     obtain ⟨_, _, _, _, _, _, _, _, _, _, _, _, U', T', T1', l', d', ci', _, _, hr', hg, _⟩ := h'
     have := atR_tmps (cl_eq hg).1
     subst this
     have := hr.t45
     rw [hr'.t45] at this
     cases this
     rfl
   | shut sent' => exact (send_shut h h').elim
   | wait sent' => exact (wait_not i2.inv i1.inv (fun _ _ _ _ x => by cases x) rfl).elim
 | shut sent =>
   cases ms' with
   | hire p' ci' co' env' => exact (not_both i2.inv i1.inv (fun _ _ _ _ x => by cases x)).elim
   | send sent' v' => exact (send_shut h' h).elim
   | shut sent' =>
     obtain rfl := en_eq i1 i2 rfl rfl
     obtain rfl : sent = sent' := sent_eq i1.inv i2.inv (fun _ _ _ _ x => by cases x)
     rfl
   | wait sent' => exact (wait_not i2.inv i1.inv (fun _ _ _ _ x => by cases x) rfl).elim
 | wait sent =>
   cases ms' with
   | hire p' ci' co' env' => exact (not_both i2.inv i1.inv (fun _ _ _ _ x => by cases x)).elim
   | wait sent' =>
     obtain rfl := en_eq i1 i2 rfl rfl
     obtain rfl : sent = sent' := sent_eq i1.inv i2.inv (fun _ _ _ _ x => by cases x)
     rfl
   | _ => exact (wait_not i1.inv i2.inv (fun _ _ _ _ x => by cases x) rfl).elim
theorem chain_net (hm : ChMOK m) : NetOK Try.prog 66 m.q.Wg (netC m) :=
 PP.net_ok (.inr rfl) (by show 0 < 1; omega) (by have := hm.few; show m.q.nf + 1 < 2147483646; omega) (fun s v hv => by obtain ⟨x, rfl⟩ := hv; exact ⟨m.q.phi s x, rfl⟩)
   (chain_kid hm.q (fleshC_ok m)) (fun _ _ _ _ _ _ h => mainC_all hm h) (fun _ _ _ _ _ _ h => anch_all h) (fun _ _ _ _ _ _ _ _ _ _ _ _ i1 i2 h h' => uniq_all i1 i2 h h')
end
end Go.Proofs.Ytblpmdolclalnaa
namespace Go.Proofs.Ytblpmdolclalnaa
open Go.Conc
def Lone (P : Program) (N0 : Nat) (Q : (Nat → Prop) → Goroutine → World → Prop) (Shun : Nat → Prop) (a : Goroutine) (w : World) : Prop :=
 ∀ gs sl t, gs[0]? = some a → Rest P Shun gs w t → ∃ gs' a' w' sl' t' Shun', Reach P (crowd gs w sl) t (crowd gs' w' sl') t' ∧ gs'[0]? = some a' ∧ Rest P Shun' gs' w' t' ∧ (∀ b, Shun' b → Shun b ∨ N0 ≤ b) ∧ Q Shun' a' w'
section
variable {P : Program} {Q Q' : (Nat → Prop) → Goroutine → World → Prop} {Shun : Nat → Prop} {a : Goroutine} {w : World} {N0 : Nat}
theorem Lone.done (h : Q Shun a w) : Lone P N0 Q Shun a w := fun gs sl t h0 hR => ⟨gs, a, w, sl, t, Shun, Reach.refl _ _, h0, hR, fun _ => .inl, h⟩
theorem Lone.bind (h : Lone P N0 Q Shun a w) (hq : ∀ Shun' a' w', (∀ b, Shun' b → Shun b ∨ N0 ≤ b) → Q Shun' a' w' → Lone P N0 Q' Shun' a' w') : Lone P N0 Q' Shun a w := by
 intro gs sl t h0 hR
 obtain ⟨gs1, a1, w1, sl1, t1, S1, r1, h1, R1, s1, q1⟩ := h gs sl t h0 hR
 obtain ⟨gs2, a2, w2, sl2, t2, S2, r2, h2, R2, s2, q2⟩ := hq S1 a1 w1 s1 q1 gs1 sl1 t1 h1 R1
 exact ⟨gs2, a2, w2, sl2, t2, S2, r1.trans r2, h2, R2, fun b hb => (s2 b hb).elim (s1 b) .inr, q2⟩
theorem Lone.imp (h : Lone P N0 Q Shun a w) (hq : ∀ Shun' a' w', (∀ b, Shun' b → Shun b ∨ N0 ≤ b) → Q Shun' a' w' → Q' Shun' a' w') : Lone P N0 Q' Shun a w := h.bind fun S a' w' h1 h2 => Lone.done (hq S a' w' h1 h2)
theorem Lone.low {N1 : Nat} (h : Lone P N1 Q Shun a w) (hn : N0 ≤ N1) : Lone P N0 Q Shun a w := by
 intro gs sl t h0 hR
 obtain ⟨gs1, a1, w1, sl1, t1, S1, r1, h1, R1, s1, q1⟩ := h gs sl t h0 hR
 exact ⟨gs1, a1, w1, sl1, t1, S1, r1, h1, R1, fun b hb => (s1 b hb).imp id (Nat.le_trans hn), q1⟩
theorem Rest.size_le {gs : Array Goroutine} {t : Trace} {n : Nat} {Stop : Goroutine → World → Prop} {sl : Option (Nat × Nat)} (h0 : gs[0]? = some a) (hR : Rest P Shun gs w t) (hG : Goes P true AtRel (SD Shun) Stop n a w) :
   ∃ gs' a' w' sl' t', Reach P (crowd gs w sl) t (crowd gs' w' sl') t' ∧ gs'[0]? = some a' ∧ Stop a' w' ∧ Rest P Shun gs' w' t' ∧ w.heap.size ≤ w'.heap.size := by
 have key : ∀ {n : Nat} {g : Goroutine} {w₁ : World}, w.heap.size ≤ w₁.heap.size → Goes P true AtRel (SD Shun) Stop n g w₁ → Goes P true AtRel (SD Shun) (fun g w' => Stop g w' ∧ w.heap.size ≤ w'.heap.size) n g w₁ := by
   intro n
   induction n with
   | zero => exact fun {g w₁} hs h w₂ h₂ => ⟨h w₂ h₂, by obtain ⟨d, rfl⟩ := h₂; exact hs⟩
   | succ n ih =>
     intro g w₁ hs h
     rcases h with h | ⟨hr, h⟩
     · exact .inl fun w₂ h₂ => ⟨h w₂ h₂, by obtain ⟨d, rfl⟩ := h₂; exact hs⟩
     · refine .inr ⟨hr, fun w₂ h₂ => goes_mono (h w₂ h₂) fun g' w' es x => ⟨x.1, ih (Nat.le_trans ?_ x.1.1) x.2⟩⟩
       obtain ⟨d, rfl⟩ := h₂; exact hs
 obtain ⟨gs', a', w', sl', t', h1, h2, h3, h4⟩ := seq (sl := sl) h0 hR (key (Nat.le_refl _) hG)
 exact ⟨gs', a', w', sl', t', h1, h2, h3.1, h4, h3.2⟩
theorem Lone.goes {n : Nat} (h : Goes P true AtRel (SD Shun) (fun g w => Q Shun g w) n a w) : Lone P N0 Q Shun a w := by
 intro gs sl t h0 hR
 obtain ⟨gs', a', w', sl', t', h1, h2, h3, h4, _⟩ := Rest.size_le (sl := sl) h0 hR h
 exact ⟨gs', a', w', sl', t', Shun, h1, h2, h4, fun _ => .inl, h3⟩
theorem Lone.on {n : Nat} (h : Goes P true AtRel (SD Shun) (fun g w' => w.heap.size ≤ w'.heap.size → Lone P N0 Q Shun g w') n a w) : Lone P N0 Q Shun a w := by
 intro gs sl t h0 hR
 obtain ⟨gs1, a1, w1, sl1, t1, r1, h1, q1, R1, z1⟩ := Rest.size_le (sl := sl) h0 hR h
 obtain ⟨gs2, a2, w2, sl2, t2, S2, r2, h2, R2, s2, q2⟩ := q1 z1 gs1 sl1 t1 h1 R1
 exact ⟨gs2, a2, w2, sl2, t2, S2, r1.trans r2, h2, R2, s2, q2⟩
theorem Lone.ends {Post : Value → World → Prop} {sl : Option (Nat × Nat)} (h : Lone P N0 (fun S g w => ∀ d, AtRet P S Post g (w.at d)) Shun a w) {gs : Array Goroutine} {t : Trace} (h0 : gs[0]? = some a) (hR : Rest P Shun gs w t) : Ends P Post (crowd gs w sl) t := by
 obtain ⟨gs', a', w', sl', t', S', r, h1, R', _, q⟩ := h gs sl t h0 hR
 exact Ends.of_reach r (seqEnd (n := 0) h1 R' (Goes.stop fun w₁ h₁ d => by obtain ⟨d', rfl⟩ := h₁; exact q d))
end
end Go.Proofs.Ytblpmdolclalnaa
namespace Go.Proofs.Ytblpmdolclalnaa
open Go.Conc
namespace PP
variable {pp : PP} {m : MS} {j : Nat} {f : Nat → KS} {cl : Nat → Option Bool}
def comp (phi : Nat → Value → Value) : Nat → Value → Value | 0, v => v | s + 1, v => phi s (comp phi s v)
theorem Inv.stream_done (h : pp.Inv m j f cl) (hj : j = pp.nf + pp.K) (hd : ∀ i, i < j → act (f i) = .done) : ∀ s, s ≤ pp.nf → pp.stream (sent m) f s = (sent m).map (comp pp.phi s) := by
 intro s
 induction s with
 | zero => intro _; simp [stream, comp]
 | succ s ih =>
   intro hs
   have hlt : s < j := by omega
   have hph := act_done (hd s hlt)
   have hg := h.data1 s hlt (.inl (by omega))
   rw [Nat.min_eq_left (by omega), ih (by omega)] at hg
   simp only [stream, outs, hph, hg, List.map_map]
   rfl
theorem Inv.result (h : pp.Inv m j f cl) (hj : j = pp.nf + pp.K) (hK : pp.K = 1) (hd : ∀ i, i < j → act (f i) = .done) : (f pp.nf).got = (sent m).map (comp pp.phi pp.nf) := by
 rw [h.data1 pp.nf (by omega) (.inr hK), Nat.min_self, h.stream_done hj hd pp.nf (Nat.le_refl _)]
end PP
end Go.Proofs.Ytblpmdolclalnaa
namespace Go.Proofs.Ytblpmdolclalnaa
open Go.Conc Go.RowKit Go.Conc.Lib Go.ConcR.Gen Go.ConcN.Gen
open Go.ConcR (WgAt KK stA smA rd wr mk DC0)
open Go.ConcN (WgLive)
structure HT0 (m : ChM) (e7 e8 : Nat) (T : Array Value) : Prop where
 size : T.size = 49
 t0 : T[0]? = some m.inV
 t1 : T[1]? = some m.fsV
 t6 : T[6]? = some (ptr m.q.Wg)
 t7 : T[7]? = some (ptr e7)
 t8 : T[8]? = some (ptr e8)
structure CW0 (m : ChM) (e7 e8 : Nat) (w : World) : Prop where
 wg : WgAt 66 m.q.Wg w 0 0
 c7 : w.cell? ⟨e7, 0, none⟩ = some (.chan (some m.q.c0))
 c8 : w.cell? ⟨e8, 0, none⟩ = some (.chan (some m.q.c0))
 b8 : ∃ cs : Array Value, w.heap[e8]? = some (.cells cs 75 (0, 0))
 ch0 : w.heap[m.q.c0]? = some (.chan 0 #[] false 0 0 false)
 out : Out m.n0 m.w0 (fun b _ => m.Shun b) w
 low : m.n0 ≤ e7 ∧ m.n0 ≤ e8 ∧ e7 ≠ e8 ∧ e7 ≠ m.q.Wg ∧ e8 ≠ m.q.Wg ∧ m.q.c0 ≠ m.q.Wg
 shun : ∀ b, m.Shun b → b < m.n0
def Gv0 (Shun : Nat → Prop) (Wg n : Nat) : Cells := fun b _ => b < n ∧ (Shun b ∨ b = Wg)
section
variable {m : ChM} {own : Nat → Prop} {e7 e8 : Nat} {w w₁ : World}
theorem cg_zero (h : CW0 m e7 e8 w) (ho : ∀ b, b < w.heap.size → own b) (hm : ChMOK m) : CG m own (Gv0 m.Shun m.q.Wg w.heap.size) (fun _ => False) 0 e7 e8 where
 outer b hb := ho b (Nat.lt_of_lt_of_le hb h.out.size)
 given b x hb hx := hx.2.elim .inl fun e => by have := hm.wg; omega
 fz _ _ hx := hx.elim
 wg x := ⟨(Array.getElem?_eq_some_iff.1 h.wg).1, .inr rfl⟩
 n7 := ⟨h.low.1, h.low.2.1, h.low.2.2.1⟩
 o7 := ⟨ho _ (cell_lt h.c7), fun x hx => hx.2.elim (fun hs => by have := h.shun _ hs; have := h.low.1; omega) h.low.2.2.2.1⟩
 o8 := ⟨ho _ (cell_lt h.c8), fun x hx => hx.2.elim (fun hs => by have := h.shun _ hs; have := h.low.2.1; omega) h.low.2.2.2.2.1⟩
 f8 _ hx := hx
 c0 _ := ⟨ho _ (Array.getElem?_eq_some_iff.1 h.ch0).1, fun x hx => hx.2.elim (fun hs => by have := h.shun _ hs; have := hm.c0; omega) h.low.2.2.2.2.2, fun hx => hx⟩
theorem cw_zero (h : CW0 m e7 e8 w) (hm : ChMOK m) : CW m (Gv0 m.Shun m.q.Wg w.heap.size) (fun _ => False) 0 e7 e8 m.q.c0 w where
 live := ⟨_, _, h.wg⟩
 c7 := h.c7
 c8 := h.c8
 b8 := h.b8
 out := h.out.less fun _b _x hb hx => ⟨Nat.lt_of_lt_of_le hb h.out.size, .inl hx⟩
 gsz _b _x hx := hx.1
 fsz _b hx := hx.elim
 lt := (Array.getElem?_eq_some_iff.1 h.ch0).1
 low := hm.c0
 ch0 _ := h.ch0
set_option maxRecDepth 100000 in
theorem to_head (hm : ChMOK m) {Given : Cells} {Fz : Nat → Prop} (g : CG m own Given Fz 0 e7 e8) {T : Array Value} (hT : HT0 m e7 e8 T) (hF : CW m Given Fz 0 e7 e8 m.q.c0 w) :
   MGoo Try.prog 66 m.q.Wg own Given Fz (AtHead m Given Fz 0 e7 e8 m.q.c0) 20 (G ((base 16).at ⟨T, []⟩ [.code (tl16 5)]) m.cs) w := by
 have hD : ∀ w, MD m.q.Wg own Given Fz w w #[] := fun w => Gua.idle w
 have rl : ∀ {w w₁ : World}, CW m Given Fz 0 e7 e8 m.q.c0 w → MR 66 m.q.Wg own Given w w₁ → CW m Given Fz 0 e7 e8 m.q.c0 w₁ := fun h r => h.rely g r
 obtain ⟨fa, cap, hfs, _⟩ := hm.fs
 have hfin : ∀ T w, HTl m 0 e7 e8 T → CW m Given Fz 0 e7 e8 m.q.c0 w → AtHead m Given Fz 0 e7 e8 m.q.c0 (G ((base 16).at ⟨T, []⟩ (.code lp16 :: .inLoop lp16 :: .inBlock 0 :: [.code (tl16 6)])) m.cs) w := fun T w h1 h2 => ⟨T, h1, rfl, h2⟩
 generalize AtHead m Given Fz 0 e7 e8 m.q.c0 = Stop at hfin ⊢
 replace hfin := Hd.mk hfin
 obtain ⟨hs, t0, t1, t6, t7, t8⟩ := hT
 obtain ⟨v0, v1, v2, v3, v4, v5, v6, v7, v8, v9, v10, v11, v12, v13, v14, v15, v16, v17, v18, v19, v20, v21, v22, v23, v24, v25, v26, v27, v28, v29, v30, v31, v32, v33, v34, v35, v36, v37, v38, v39, v40, v41, v42, v43, v44, v45, v46, v47, v48, rfl⟩ := array49 T hs
 simp only [List.getElem?_toArray, List.getElem?_cons_zero, List.getElem?_cons_succ, Option.some.injEq] at t0 t1 t6 t7 t8
 subst t0 t1 t6 t7 t8
 clear hs
 simp only [tl16, cS, body16, Try.f16, Option.getD_some]
 refine Goo.of_goes (n := 20) ?_
 rw [hfs]
 repeat ((first | ((with_reducible refine g_opG ?_); first | (refine g_unw hD rfl rfl ?_; intro _ h₁; replace hF := rl hF h₁; clear h₁; walk_nrm) | (refine Goes.step rfl ?_; intro _ h₁; replace hF := rl hF h₁; clear h₁; refine goes_oper_k rfl rfl (by k_ne) fun K hK => ?_; go_simp; refine hK _ _ ⟨g_idle hD fun e he => by have hm := mem_listed he; simp [go_sem, *] at hm, ?_⟩; clear hK K; try w_num)) | ((first | ((with_reducible refine g_c (k' := ?_) true false hD ?_ ?_); rotate_left; focus exact rfl) | with_reducible refine g_r hD rfl ?_); intro _ h₁; replace hF := rl hF h₁; clear h₁)))
 (first | ((with_reducible refine g_opG ?_); first | (refine g_unw hD rfl rfl ?_; intro _ h₁; replace hF := rl hF h₁; clear h₁; walk_nrm) | (refine Goes.step rfl ?_; intro _ h₁; replace hF := rl hF h₁; clear h₁; refine goes_oper_k rfl rfl (by k_ne) fun K hK => ?_; go_simp; refine hK _ _ ⟨g_idle hD fun e he => by have hm := mem_listed he; simp [go_sem, *] at hm, ?_⟩; clear hK K; try w_num)) | ((first | ((with_reducible refine g_c (k' := ?_) true true hD ?_ ?_); rotate_left; focus exact rfl) | with_reducible refine g_r hD rfl ?_); intro _ h₁; replace hF := rl hF h₁; clear h₁))
 refine Goes.stop fun w₁ h₁ => hfin.out _ _ ⟨rfl, rfl, rfl, rfl, rfl, ?_, rfl, rfl⟩ (rl hF h₁)
 exact congrArg some hfs.symm
theorem begin_net (hm : ChMOK m) (h : CW0 m e7 e8 w) {T : Array Value} (hT : HT0 m e7 e8 T) (ho : ∀ b, b < w.heap.size → own b) :
   MGoo Try.prog 66 m.q.Wg own (Gv0 m.Shun m.q.Wg w.heap.size) (fun _ => False) (fun g w' => ∃ me, (∃ co env, me = (MS.hire 0 m.q.c0 co env, ([] : List Nat)) ∧ (0 < m.q.nf → m.q.c0 < co)) ∧ (netC m).Main own me (Gv0 m.Shun m.q.Wg w.heap.size) (fun _ => False) g w') 130 (G ((base 16).at ⟨T, []⟩ [.code (tl16 5)]) m.cs) w := by
 have g := cg_zero h ho hm
 refine Goo.mono (n := 100 + 20) (Goo.bind (fun w => Rel.refl w) (fun gg w' hh => ?_) (to_head hm g hT (cw_zero h hm))) (by decide)
 refine (head_any hm g (Nat.zero_le _) hh).imp fun g w h => ?_
 obtain ⟨co, env, h1, h2⟩ := h
 exact ⟨_, ⟨co, env, rfl, h1⟩, h2⟩
/-! ### what stands at the end -/
def compI (phi : Nat → Int → Int) : Nat → Int → Int | 0, x => x | s + 1, x => phi s (compI phi s x)
theorem comp_int (m : ChM) : ∀ (s : Nat) (x : Int), PP.comp m.q.pp.phi s (.int .i64 x) = .int .i64 (compI m.q.phi s x) := by
 intro s
 induction s with
 | zero => intro x; rfl
 | succ s ih => intro x; simp only [PP.comp, ih, compI]; rfl
structure ChEnd (m : ChM) (e13 d : Nat) (w : World) : Prop where
 low : m.n0 ≤ e13 ∧ m.n0 ≤ d ∧ e13 ≠ m.q.Wg
 dfr : w.heap[d]? = some (.deferred (some []))
 live : WgLive 66 m.q.Wg w
 res : ∃ v, w.cell? ⟨e13, 0, none⟩ = some v ∧ w.ownsRow 0 3 1 v m.xs.length (m.xs.map (PP.comp m.q.pp.phi m.q.nf))
 out : Out m.n0 m.w0 (fun b x => m.Shun b ∨ ∃ s, s < m.q.nf ∧ m.gv s b x) w
 fns : ∀ s, s < m.q.nf → ∃ own Got Rd, m.q.need own Got Rd s ∧ m.q.X own Got Rd s (m.xs.map (PP.comp m.q.pp.phi s)) w
theorem chain_phase (hm : ChMOK m) (hX : ∀ b x s, m.q.nf ≤ s → ¬ m.gv s b x) (h : CW0 m e7 e8 w) {T : Array Value} (hT : HT0 m e7 e8 T) :
   Lone Try.prog m.n0 (fun S g w' => (∀ b, S b → m.Shun b ∨ b = m.q.Wg) ∧ ∃ e7 e8 e13 T d, HTs m e7 e8 e13 T ∧ ChEnd m e13 d w' ∧ ∀ Shun, Goes Try.prog true AtRel (SD Shun) (fun g w2 => g = G ((base 16).at ⟨T.setIfInBounds 47 (.tuple #[]), markD d⟩ (.inRegion ops21 [] :: [.code (tl16 12)])) m.cs ∧ AtRel w' w2) 20 g w') m.Shun (G ((base 16).at ⟨T, []⟩ [.code (tl16 5)]) m.cs) w := by
 intro gs sl t h0 hR
 have hns : ¬ m.Shun m.q.Wg := fun hs => by have := h.shun _ hs; have := hm.wg; omega
 obtain ⟨k, gs', w', sl', t', a', h1, h2, h3, me, j, fs, cl, hI, hw, hall, haf, _⟩ := phase (chain_net hm) (sl := sl) h0 hR (fun b hb => hb.elim (fun e => e ▸ hns) fun h => (PP.no_ab b h).elim) h.wg (fun b h => (PP.no_ab b h).elim) (G₀ := Gv0 m.Shun m.q.Wg w.heap.size) (fun b x => and_congr_right fun _ => or_congr_right (or_iff_left (PP.no_ab b)).symm)
   (Q := fun me => ∃ co env, me = (MS.hire 0 m.q.c0 co env, ([] : List Nat)) ∧ (0 < m.q.nf → m.q.c0 < co)) (B := m.q.pp.muM (.hire 0 m.q.c0 0 [])) (f0 := fun _ => ⟨0, 0, 0, [], .recv, []⟩)
   ⟨(.hire 0 m.q.c0 (m.q.c0 + 1) [], []), m.q.c0 + 1, [], rfl, fun _ => by omega⟩
   (fun me hme => by
     obtain ⟨co, env, rfl, hlt⟩ := hme
     exact ⟨⟨PP.Inv.init rfl rfl hlt (by show 0 < m.q.nf + 1; omega) _, fun _ => rfl, fun hx => by cases hx⟩, Nat.le_refl _⟩) (fun _ _ h => h.elim)
   (fun own ho => begin_net hm h hT ho)
 obtain ⟨ms, en⟩ := me
 obtain ⟨sent, rfl⟩ : ∃ s, ms = .wait s := PP.mact_wait hw
 obtain ⟨own, Given, Fz, e7', e8', e13, T', l, d, ci, rfl, rfl, hg, hT', hF, hB⟩ := haf
 obtain ⟨r, hri⟩ := hF.ri
 have hinv : m.q.pp.Inv (.wait m.xs) j fs cl := hI.inv
 have hj : j = m.q.nf + 1 := hinv.all fun _ _ _ _ x => by cases x
 have hdone : ∀ i, i < j → PP.act (fs i) = .done := fun i hi => (hall i hi).1
 have hgot : ∀ s, s < m.q.nf → (fs s).got = m.xs.map (PP.comp m.q.pp.phi s) := fun s hs => by
   have hd1 := hinv.data1 s (by omega) (.inl hs)
   rw [hd1]
   show m.q.pp.stream m.xs fs (min s m.q.nf) = _
   rw [Nat.min_eq_left (Nat.le_of_lt hs)]
   exact hinv.stream_done hj hdone s (Nat.le_of_lt hs)
 have hres := hinv.result hj rfl hdone
 obtain ⟨i, hij, henv⟩ := hI.last rfl
 obtain rfl : i = m.q.nf := by omega
 obtain ⟨e8'', e13', v, he, hv, hrow⟩ := ((hall m.q.nf (by omega)).2 : m.q.Fin _ _).2 (by rw [hinv.kd _ (by omega)]; exact Nat.le_refl _)
 have he' : [e8', e13] = [e8'', e13'] := henv.symm.trans he
 simp only [List.cons.injEq, and_true] at he'
 obtain ⟨rfl, rfl⟩ := he'
 have hres' : (fs m.q.nf).got = m.xs.map (PP.comp m.q.pp.phi m.q.nf) := hres
 rw [hres', List.length_map] at hrow
 refine ⟨gs', a', w', sl', t', _, ⟨k, h1⟩, h2, h3, fun b hb => hb.elim .inl fun e => .inr (e ▸ hm.wg), fun b hb => hb, e7', e8', e13, T', d, hT', ⟨⟨hT'.low, hri.lp.od.2.2.2, fun e => ?_⟩, hri.lp.dfr, hri.cw.live, ⟨v, hv, hrow⟩, ?_, fun s hs => ?_⟩, hB⟩
 · -- the result's cell is not the group's
   subst e
   obtain ⟨st, sm, hl⟩ := hri.cw.live
   have h1 : w'.cell? ⟨m.q.Wg, 0, none⟩ = some (.int .u64 st) := hl.cellSt
   rw [hv] at h1
   cases h1
   rcases hrow.2 with ⟨hx, _⟩ | ⟨_, _, _, hx, _⟩ <;> cases hx
 · refine hri.cw.out.less fun b x hb hx => (hg.given b x hb hx).imp id fun ⟨s, h1, h2⟩ => ⟨s, ?_, h2⟩
   rcases Nat.lt_or_ge s m.q.nf with x | x
   · exact x
   · exact absurd h2 (hX _ _ _ x)
 · obtain ⟨o, G', R', h1, h2⟩ := ((hall s (by omega)).2 : m.q.Fin _ _).1 (by rw [hinv.kd _ (by omega)]; exact hs)
   rw [hinv.kd _ (by omega), hgot s hs] at h2
   rw [hinv.kd _ (by omega)] at h1
   exact ⟨o, G', R', h1, h2⟩
end
section
variable {Shun : Nat → Prop} {w w' : World} {es : Array Event}
theorem sd_idle (w : World) : SD Shun w w #[] := ⟨Nat.le_refl _, fun e he => by simp at he⟩
theorem sd_read (h : ∀ e ∈ es, ∃ (a : Addr) (wr sy : Bool), e = ⟨.cell a, wr, sy⟩ ∧ ¬ Shun a.block ∧ a.block < w.heap.size) : SD Shun w w es := ⟨Nat.le_refl _, fun e he => .inl (h e he)⟩
theorem sd_new (hsz : w.heap.size ≤ w'.heap.size) (h : ∀ e ∈ es, False) : SD Shun w w' es := ⟨hsz, fun e he => (h e he).elim⟩
theorem sd_set {a : Addr} {v : Value} (ha : ¬ Shun a.block) (hlt : a.block < w.heap.size) (h : ∀ e ∈ es, e = ⟨.cell a, true, false⟩) : SD Shun w (w.setCell a v) es :=
 ⟨by simp [World.setCell], fun e he => .inl ⟨a, true, false, h e he, ha, by simpa [World.setCell] using hlt⟩⟩
end
def Steady (F : World → Prop) : Prop := ∀ w d, F w → F (w.at d)
theorem Steady.rel {F : World → Prop} (h : Steady F) {w w₁ : World} (hF : F w) (r : AtRel w w₁) : F w₁ := by
 obtain ⟨d, rfl⟩ := r
 exact h w d hF
/-! ### f == nil -/
section
variable {P : Program} {w : World} {t : TypeId} {ps rs : Array TypeId} {vr : Bool}
theorem eq_nn (d : Nat) (h : P.underlying t = some (.func ps rs vr)) : (Op.equalIn (d + 1) t .nilFunc .nilFunc).run P w = .ok true w := by
 simp [Op.equalIn, Sem.run_bind, run_underlying h]
theorem eq_fn (d : Nat) (f : Fn) (fr cp : Array Value) (h : P.underlying t = some (.func ps rs vr)) : (Op.equalIn (d + 1) t (.func f fr cp) .nilFunc).run P w = .ok false w := by
 simp [Op.equalIn, Sem.run_bind, run_underlying h]
theorem eq_nnE (d : Nat) (h : P.underlying t = some (.func ps rs vr)) (es : Array Event) : (Op.equalIn (d + 1) t .nilFunc .nilFunc).events P w es = es := by
 simp [Op.equalIn, Sem.events_bind, run_underlying h]
theorem eq_fnE (d : Nat) (f : Fn) (fr cp : Array Value) (h : P.underlying t = some (.func ps rs vr)) (es : Array Event) : (Op.equalIn (d + 1) t (.func f fr cp) .nilFunc).events P w es = es := by
 simp [Op.equalIn, Sem.events_bind, run_underlying h]
theorem eql_nn (h : P.underlying t = some (.func ps rs vr)) : (binOp .eql t .nilFunc .nilFunc).run P w = .ok (.bool true) w := by
 have e : (Op.equal t .nilFunc .nilFunc).run P w = .ok true w := eq_nn 9999 h
 simp only [binOp]
 simp [e]
theorem eql_fn (f : Fn) (fr cp : Array Value) (h : P.underlying t = some (.func ps rs vr)) : (binOp .eql t (.func f fr cp) .nilFunc).run P w = .ok (.bool false) w := by
 have e : (Op.equal t (.func f fr cp) .nilFunc).run P w = .ok false w := eq_fn 9999 f fr cp h
 simp only [binOp]
 simp [e]
theorem eql_nnE (h : P.underlying t = some (.func ps rs vr)) (es : Array Event) : (binOp .eql t .nilFunc .nilFunc).events P w es = es := by
 have e : (Op.equal t .nilFunc .nilFunc).run P w = .ok true w := eq_nn 9999 h
 have e' : (Op.equal t .nilFunc .nilFunc).events P w es = es := eq_nnE 9999 h es
 simp only [binOp]
 simp [e']
theorem eql_fnE (f : Fn) (fr cp : Array Value) (h : P.underlying t = some (.func ps rs vr)) (es : Array Event) : (binOp .eql t (.func f fr cp) .nilFunc).events P w es = es := by
 have e : (Op.equal t (.func f fr cp) .nilFunc).run P w = .ok false w := eq_fn 9999 f fr cp h
 have e' : (Op.equal t (.func f fr cp) .nilFunc).events P w es = es := eq_fnE 9999 f fr cp h es
 simp only [binOp]
 simp [e']
end
@[go_sem] theorem eql28n (w : World) : (binOp .eql 28 .nilFunc .nilFunc).run Try.prog w = .ok (.bool true) w := eql_nn Try.underlying28
@[go_sem] theorem eql28f (w : World) (f : Fn) (fr cp : Array Value) : (binOp .eql 28 (.func f fr cp) .nilFunc).run Try.prog w = .ok (.bool false) w := eql_fn f fr cp Try.underlying28
@[go_sem] theorem eql28nE (w : World) (es : Array Event) : (binOp .eql 28 .nilFunc .nilFunc).events Try.prog w es = es := eql_nnE Try.underlying28 es
@[go_sem] theorem eql28fE (w : World) (f : Fn) (fr cp : Array Value) (es : Array Event) : (binOp .eql 28 (.func f fr cp) .nilFunc).events Try.prog w es = es := eql_fnE f fr cp Try.underlying28 es
@[go_sem] theorem eql31n (w : World) : (binOp .eql 31 .nilFunc .nilFunc).run Try.prog w = .ok (.bool true) w := eql_nn Try.underlying31
@[go_sem] theorem eql31f (w : World) (f : Fn) (fr cp : Array Value) : (binOp .eql 31 (.func f fr cp) .nilFunc).run Try.prog w = .ok (.bool false) w := eql_fn f fr cp Try.underlying31
@[go_sem] theorem eql31nE (w : World) (es : Array Event) : (binOp .eql 31 .nilFunc .nilFunc).events Try.prog w es = es := eql_nnE Try.underlying31 es
@[go_sem] theorem eql31fE (w : World) (f : Fn) (fr cp : Array Value) (es : Array Event) : (binOp .eql 31 (.func f fr cp) .nilFunc).events Try.prog w es = es := eql_fnE f fr cp Try.underlying31 es
/-! ### slices.ContainsFunc -/
def isFn (v : Value) : Prop := v = .nilFunc ∨ ∃ f fr cp, v = .func f fr cp
def isNil : Value → Bool | .nilFunc => true | _ => false
structure FnS (Shun : Nat → Prop) (fa : Option Addr) (vs : List Value) (w : World) : Prop where
 elem : ∀ (i : Nat) (v : Value), vs[i]? = some v → ∃ bf o, fa = some ⟨bf, o, none⟩ ∧ ¬ Shun bf ∧ w.cell? ⟨bf, o + i, none⟩ = some v ∧ isFn v
noncomputable def body59 : Code := Try.f59.body.getD .skip
noncomputable def lp59 : Code := cI (cI (cS (cF (cS body59))))
noncomputable def tl59 : Code := cS (cS body59)
structure U59 (fa : Option Addr) (n cap i : Nat) (U : Array Value) : Prop where
 size : U.size = 19
 t0 : U[0]? = some (.slice fa n cap)
 t1 : U[1]? = some (.func (.func 34) #[] #[])
 t7 : U[7]? = some (.int .i64 n)
 t8 : U[8]? = some (.int .i64 i)
theorem array19 (T : Array Value) (h : T.size = 19) : ∃ v0 v1 v2 v3 v4 v5 v6 v7 v8 v9 v10 v11 v12 v13 v14 v15 v16 v17 v18, T = #[v0, v1, v2, v3, v4, v5, v6, v7, v8, v9, v10, v11, v12, v13, v14, v15, v16, v17, v18] := by
 obtain ⟨l⟩ := T
 match l, h with
 | [v0, v1, v2, v3, v4, v5, v6, v7, v8, v9, v10, v11, v12, v13, v14, v15, v16, v17, v18], _ => exact ⟨v0, v1, v2, v3, v4, v5, v6, v7, v8, v9, v10, v11, v12, v13, v14, v15, v16, v17, v18, rfl⟩
section
variable {Shun : Nat → Prop} {fa : Option Addr} {vs : List Value} {cap i : Nat} {w : World} {F : World → Prop} {cs : List Frame} {v : Value}
theorem enter34 {P : Program} {a : Act} {o : Oper} {y z : Operand} {ats : Array TypeId} {fn : Func} (hop : o.op = .call { callee := .value y, args := #[z], argTypes := ats }) (hy : a.eval y = .func (.func 34) #[] #[]) (hz : a.eval z = v) (hf : P.funcs[34]? = some fn) (hn : (fn.name == "runtime.NumGoroutine") = false) (hb : fn.body.isNone = false) :
   (execOp a.eval o).run P w = .ok (.enter 34 #[v]) w ∧ (execOp a.eval o).events P w #[] = #[] := by
 have h1 : ¬ fn.name = "runtime.NumGoroutine" := by simpa using hn
 have h2 : ¬ fn.body = none := by cases hx : fn.body <;> simp_all
 constructor
 · unfold execOp
   simp only [hop]
   simp [resolve, Deferred.ofValue, hy, hz, invoke, callFunc, hf, h1, h2]
 · unfold execOp
   simp only [hop]
   simp [resolve, Deferred.ofValue, hy, hz, invoke, callFunc, hf, h1, h2]
set_option maxRecDepth 100000 in
theorem idx_round {Stop : Goroutine → World → Prop} (hS : Steady F) (hK : ∀ w, F w → FnS Shun fa vs w) (hF : F w) (hlen : vs.length < 1000000) {U : Array Value} (hU : U59 fa vs.length cap i U) (hv : vs[i]? = some v)
   (hno : isNil v = false → ∀ U w, F w → U59 fa vs.length cap (i + 1) U → Stop (G ((base 59).at ⟨U, []⟩ [.code lp59, .inLoop lp59, .inBlock 0, .code tl59]) cs) w)
   (hyes : isNil v = true → ∀ U w, F w → U.size = 19 → U[4]? = some (.int .i64 i) → ∀ k, Stop (G { (base 59).at ⟨U, []⟩ k with mode := .returning } cs) w) :
   Goes Try.prog true AtRel (SD Shun) Stop 60 (G ((base 59).at ⟨U, []⟩ [.code lp59, .inLoop lp59, .inBlock 0, .code tl59]) cs) w := by
 have hD : ∀ w, SD Shun w w #[] := sd_idle
 have rl : ∀ {w w₁ : World}, F w → AtRel w w₁ → F w₁ := fun h r => hS.rel h r
 obtain ⟨hs, t0, t1, t7, t8⟩ := hU
 obtain ⟨v0, v1, v2, v3, v4, v5, v6, v7, v8, v9, v10, v11, v12, v13, v14, v15, v16, v17, v18, rfl⟩ := array19 U hs
 simp only [List.getElem?_toArray, List.getElem?_cons_zero, List.getElem?_cons_succ, Option.some.injEq] at t0 t1 t7 t8
 subst t0 t1 t7 t8
 clear hs
 have hi : i < vs.length := (List.getElem?_eq_some_iff.1 hv).1
 have hlt : decide ((i : Int) < (vs.length : Int)) = true := decide_eq_true (by omega)
 have hadd : IntKind.i64.wrap ((i : Int) + 1) = ((i + 1 : Nat) : Int) := by rw [IntKind.wrap_i64]; omega
 replace hlen := Hd.mk hlen
 replace hv := Hd.mk hv
 replace hno := Hd.mk hno
 replace hyes := Hd.mk hyes
 obtain ⟨bf, o, rfl, _⟩ := (hK _ hF).elem i v hv.out
 simp only [lp59, tl59, cS, cF, cI, body59, Try.f59, Option.getD_some] at hno ⊢
 repeat ((first | ((with_reducible refine g_opG ?_); first | (refine g_unw hD rfl rfl ?_; intro _ h₁; replace hF := rl hF h₁; clear h₁; walk_nrm) | (refine Goes.step rfl ?_; intro _ h₁; replace hF := rl hF h₁; clear h₁; refine goes_oper_k rfl rfl (by k_ne) fun K hK => ?_; go_simp; refine hK _ _ ⟨g_idle hD fun e he => by have hm := mem_listed he; simp [go_sem, *] at hm, ?_⟩; clear hK K; try w_num)) | ((first | ((with_reducible refine g_c (k' := ?_) true true hD ?_ ?_); rotate_left; focus exact rfl) | with_reducible refine g_r hD rfl ?_); intro _ h₁; replace hF := rl hF h₁; clear h₁)))
 (refine Goes.step rfl (fun _ h₁ => ?_); replace hF := rl hF h₁; clear h₁)
 refine goes_oper_k rfl rfl (by decide) (fun K hK' => ?_)
 obtain ⟨bf', o', he', h1, h2, h3⟩ := (hK _ hF).elem i v hv.out
 cases he'
 rcases h3 with rfl | ⟨f, fr, cp, rfl⟩
 · go_simp
   refine hK' _ _ ⟨sd_read fun e he => ?_, ?_⟩
   · have hm := mem_listed he
     simp [go_sem, h2] at hm
     exact ⟨_, _, _, hm, h1, cell_lt h2⟩
   clear hK' K h1 h2
   try walk_nrm
   (refine Goes.step rfl (fun _ h₁ => ?_); replace hF := rl hF h₁; clear h₁)
   rw [stepG_enter rfl rfl (by decide) (enter34 rfl rfl rfl Try.func34 rfl rfl).1, listed_nil (enter34 rfl rfl rfl Try.func34 rfl rfl).2, enter_at _ Try.func34 rfl]
   simp only [goes_go]
   refine ⟨by exact hD _, ?_⟩
   simp only [Try.f34]
   walk_nrm
   repeat (first | (first | ((with_reducible refine g_opG ?_); first | (refine g_unw hD rfl rfl ?_; intro _ h₁; replace hF := rl hF h₁; clear h₁; walk_nrm) | (refine Goes.step rfl ?_; intro _ h₁; replace hF := rl hF h₁; clear h₁; refine goes_oper_k rfl rfl (by k_ne) fun K hK => ?_; go_simp; refine hK _ _ ⟨g_idle hD fun e he => by have hm := mem_listed he; simp [go_sem, *] at hm, ?_⟩; clear hK K; try w_num)) | ((first | ((with_reducible refine g_c (k' := ?_) true true hD ?_ ?_); rotate_left; focus exact rfl) | with_reducible refine g_r hD rfl ?_); intro _ h₁; replace hF := rl hF h₁; clear h₁) | ((with_reducible refine g_lvG ?_); refine Goes.step rfl (fun _ h₁ => ?_); replace hF := rl hF h₁; clear h₁; refine goes_leave1 rfl rfl Try.func34 rfl ⟨hD _, ?_⟩; walk_nrm)))
   refine Goes.stop fun w₁ h₁ => ?_
   refine hyes.out rfl _ _ (rl hF h₁) ?_ ?_ _ <;> rfl
 · go_simp
   refine hK' _ _ ⟨sd_read fun e he => ?_, ?_⟩
   · have hm := mem_listed he
     simp [go_sem, h2] at hm
     exact ⟨_, _, _, hm, h1, cell_lt h2⟩
   clear hK' K h1 h2
   try walk_nrm
   (refine Goes.step rfl (fun _ h₁ => ?_); replace hF := rl hF h₁; clear h₁)
   rw [stepG_enter rfl rfl (by decide) (enter34 rfl rfl rfl Try.func34 rfl rfl).1, listed_nil (enter34 rfl rfl rfl Try.func34 rfl rfl).2, enter_at _ Try.func34 rfl]
   simp only [goes_go]
   refine ⟨by exact hD _, ?_⟩
   simp only [Try.f34]
   walk_nrm
   repeat (first | (first | ((with_reducible refine g_opG ?_); first | (refine g_unw hD rfl rfl ?_; intro _ h₁; replace hF := rl hF h₁; clear h₁; walk_nrm) | (refine Goes.step rfl ?_; intro _ h₁; replace hF := rl hF h₁; clear h₁; refine goes_oper_k rfl rfl (by k_ne) fun K hK => ?_; go_simp; refine hK _ _ ⟨g_idle hD fun e he => by have hm := mem_listed he; simp [go_sem, *] at hm, ?_⟩; clear hK K; try w_num)) | ((first | ((with_reducible refine g_c (k' := ?_) false true hD ?_ ?_); rotate_left; focus exact rfl) | with_reducible refine g_r hD rfl ?_); intro _ h₁; replace hF := rl hF h₁; clear h₁) | ((with_reducible refine g_lvG ?_); refine Goes.step rfl (fun _ h₁ => ?_); replace hF := rl hF h₁; clear h₁; refine goes_leave1 rfl rfl Try.func34 rfl ⟨hD _, ?_⟩; walk_nrm)))
   (first | ((with_reducible refine g_opG ?_); first | (refine g_unw hD rfl rfl ?_; intro _ h₁; replace hF := rl hF h₁; clear h₁; walk_nrm) | (refine Goes.step rfl ?_; intro _ h₁; replace hF := rl hF h₁; clear h₁; refine goes_oper_k rfl rfl (by k_ne) fun K hK => ?_; go_simp; refine hK _ _ ⟨g_idle hD fun e he => by have hm := mem_listed he; simp [go_sem, *] at hm, ?_⟩; clear hK K; try w_num)) | ((first | ((with_reducible refine g_c (k' := ?_) true true hD ?_ ?_); rotate_left; focus exact rfl) | with_reducible refine g_r hD rfl ?_); intro _ h₁; replace hF := rl hF h₁; clear h₁))
   exact Goes.stop fun w₁ h₁ => hno.out rfl _ _ (rl hF h₁) ⟨rfl, rfl, rfl, rfl, rfl⟩
end
end Go.Proofs.Ytblpmdolclalnaa
namespace Go.Proofs.Ytblpmdolclalnaa
open Go.Conc Go.RowKit Go.Conc.Lib Go.ConcR.Gen Go.ConcN.Gen
section
variable {Shun : Nat → Prop} {fa : Option Addr} {vs : List Value} {cap i : Nat} {w : World} {F : World → Prop} {cs : List Frame} {v : Value} {N0 : Nat}
set_option maxRecDepth 100000 in
theorem idx_done {Stop : Goroutine → World → Prop} (hS : Steady F) (hF : F w) {U : Array Value} (hU : U59 fa vs.length cap vs.length U)
   (hyes : ∀ U w, F w → U.size = 19 → U[4]? = some (.int .i64 (-1)) → ∀ k, Stop (G { (base 59).at ⟨U, []⟩ k with mode := .returning } cs) w) :
   Goes Try.prog true AtRel (SD Shun) Stop 30 (G ((base 59).at ⟨U, []⟩ [.code lp59, .inLoop lp59, .inBlock 0, .code tl59]) cs) w := by
 have hD : ∀ w, SD Shun w w #[] := sd_idle
 have rl : ∀ {w w₁ : World}, F w → AtRel w w₁ → F w₁ := fun h r => hS.rel h r
 obtain ⟨hs, t0, t1, t7, t8⟩ := hU
 obtain ⟨v0, v1, v2, v3, v4, v5, v6, v7, v8, v9, v10, v11, v12, v13, v14, v15, v16, v17, v18, rfl⟩ := array19 U hs
 simp only [List.getElem?_toArray, List.getElem?_cons_zero, List.getElem?_cons_succ, Option.some.injEq] at t0 t1 t7 t8
 subst t0 t1 t7 t8
 clear hs
 have hlt : decide ((vs.length : Int) < (vs.length : Int)) = false := decide_eq_false (by omega)
 replace hyes := Hd.mk hyes
 simp only [lp59, tl59, cS, cF, cI, body59, Try.f59, Option.getD_some]
 repeat ((first | ((with_reducible refine g_opG ?_); first | (refine g_unw hD rfl rfl ?_; intro _ h₁; replace hF := rl hF h₁; clear h₁; walk_nrm) | (refine Goes.step rfl ?_; intro _ h₁; replace hF := rl hF h₁; clear h₁; refine goes_oper_k rfl rfl (by k_ne) fun K hK => ?_; go_simp; refine hK _ _ ⟨g_idle hD fun e he => by have hm := mem_listed he; simp [go_sem, *] at hm, ?_⟩; clear hK K; try w_num)) | ((first | ((with_reducible refine g_c (k' := ?_) true true hD ?_ ?_); rotate_left; focus exact rfl) | with_reducible refine g_r hD rfl ?_); intro _ h₁; replace hF := rl hF h₁; clear h₁)))
 refine Goes.stop fun w₁ h₁ => ?_
 refine hyes.out _ _ (rl hF h₁) ?_ ?_ _ <;> rfl
def IdxEnd (Shun : Nat → Prop) (F : World → Prop) (b : Bool) (cs : List Frame) (S : Nat → Prop) (g : Goroutine) (w : World) : Prop :=
 S = Shun ∧ F w ∧ ∃ U r k, U.size = 19 ∧ U[4]? = some (.int .i64 r) ∧ decide (0 ≤ r) = b ∧ g = G { (base 59).at ⟨U, []⟩ k with mode := .returning } cs
theorem idx_loop (hS : Steady F) (hK : ∀ w, F w → FnS Shun fa vs w) (hlen : vs.length < 1000000) : ∀ (m i : Nat) (U : Array Value) (w : World), i + m = vs.length → F w → U59 fa vs.length cap i U →
   Lone Try.prog N0 (IdxEnd Shun F ((vs.drop i).any isNil) cs) Shun (G ((base 59).at ⟨U, []⟩ [.code lp59, .inLoop lp59, .inBlock 0, .code tl59]) cs) w := by
 intro m
 induction m with
 | zero =>
   intro i U w hi hF hU
   obtain rfl : i = vs.length := by omega
   refine Lone.goes (n := 30) (idx_done hS hF hU fun U w hF hs h4 k => ⟨rfl, hF, U, -1, k, hs, h4, by simp, rfl⟩)
 | succ m ih =>
   intro i U w hi hF hU
   have hlt : i < vs.length := by omega
   have hv : vs[i]? = some vs[i] := List.getElem?_eq_getElem hlt
   have hd : vs.drop i = vs[i] :: vs.drop (i + 1) := List.drop_eq_getElem_cons hlt
   refine Lone.on (n := 60) (idx_round hS hK hF hlen hU hv (fun hn U' w' hF' hU' _ => ?_) (fun hy U' w' hF' hs h4 k _ => ?_))
   · rw [hd, List.any_cons, hn, Bool.false_or]
     exact ih (i + 1) U' w' (by omega) hF' hU'
   · refine Lone.done ⟨rfl, hF', U', i, k, hs, h4, ?_, rfl⟩
     rw [hd, List.any_cons, hy]
     simp
noncomputable def body33 : Code := Try.f33.body.getD .skip
set_option maxRecDepth 100000 in
theorem has_first {Stop : Goroutine → World → Prop} (hS : Steady F) (hF : F w)
   (hgo : ∀ U w, F w → U59 fa vs.length cap 0 U → ∀ V, V.size = 9 → Stop (G ((base 59).at ⟨U, []⟩ [.code lp59, .inLoop lp59, .inBlock 0, .code tl59]) ((base 33).at ⟨V, []⟩ (.inRegion (cO (cF (cS body33))) [2, 3, 4] :: [.code (cS (cS body33))]) :: cs)) w) :
   Goes Try.prog true AtRel (SD Shun) Stop 60 (G ((base 33).at ⟨#[.slice fa vs.length cap, .func (.func 34) #[] #[], undef, undef, undef, undef, undef, undef, undef], []⟩ [.code body33]) cs) w := by
 have hD : ∀ w, SD Shun w w #[] := sd_idle
 have rl : ∀ {w w₁ : World}, F w → AtRel w w₁ → F w₁ := fun h r => hS.rel h r
 replace hgo := Hd.mk hgo
 simp only [lp59, tl59, cS, cF, cI, cO, body59, body33, Try.f59, Try.f33, Option.getD_some] at hgo ⊢
 repeat ((first | ((with_reducible refine g_opG ?_); first | (refine g_unw hD rfl rfl ?_; intro _ h₁; replace hF := rl hF h₁; clear h₁; walk_nrm) | (refine Goes.step rfl ?_; intro _ h₁; replace hF := rl hF h₁; clear h₁; refine goes_oper_k rfl rfl (by k_ne) fun K hK => ?_; go_simp; refine hK _ _ ⟨g_idle hD fun e he => by have hm := mem_listed he; simp [go_sem, *] at hm, ?_⟩; clear hK K; try w_num)) | ((first | ((with_reducible refine g_c (k' := ?_) true true hD ?_ ?_); rotate_left; focus exact rfl) | with_reducible refine g_r hD rfl ?_); intro _ h₁; replace hF := rl hF h₁; clear h₁)))
 ((with_reducible refine g_opG ?_); refine Goes.step rfl (fun _ h₁ => ?_); replace hF := rl hF h₁; clear h₁; refine goes_call rfl rfl (by k_ne) rfl Try.func59 rfl rfl ⟨hD _, ?_⟩; walk_nrmf Try.f59)
 repeat ((first | ((with_reducible refine g_opG ?_); first | (refine g_unw hD rfl rfl ?_; intro _ h₁; replace hF := rl hF h₁; clear h₁; walk_nrm) | (refine Goes.step rfl ?_; intro _ h₁; replace hF := rl hF h₁; clear h₁; refine goes_oper_k rfl rfl (by k_ne) fun K hK => ?_; go_simp; refine hK _ _ ⟨g_idle hD fun e he => by have hm := mem_listed he; simp [go_sem, *] at hm, ?_⟩; clear hK K; try w_num)) | ((first | ((with_reducible refine g_c (k' := ?_) true false hD ?_ ?_); rotate_left; focus exact rfl) | with_reducible refine g_r hD rfl ?_); intro _ h₁; replace hF := rl hF h₁; clear h₁)))
 (first | ((with_reducible refine g_opG ?_); first | (refine g_unw hD rfl rfl ?_; intro _ h₁; replace hF := rl hF h₁; clear h₁; walk_nrm) | (refine Goes.step rfl ?_; intro _ h₁; replace hF := rl hF h₁; clear h₁; refine goes_oper_k rfl rfl (by k_ne) fun K hK => ?_; go_simp; refine hK _ _ ⟨g_idle hD fun e he => by have hm := mem_listed he; simp [go_sem, *] at hm, ?_⟩; clear hK K; try w_num)) | ((first | ((with_reducible refine g_c (k' := ?_) true true hD ?_ ?_); rotate_left; focus exact rfl) | with_reducible refine g_r hD rfl ?_); intro _ h₁; replace hF := rl hF h₁; clear h₁))
 exact Goes.stop fun w₁ h₁ => hgo.out _ _ (rl hF h₁) ⟨rfl, rfl, rfl, rfl, rfl⟩ _ rfl
set_option maxRecDepth 100000 in
theorem has_last {Stop : Goroutine → World → Prop} {b₀ : Frame} {a₀ : Act} {ops₀ : Array Oper} {i₀ : Nat} {rest₀ : List Nat} {k₀ k : List Item} (hS : Steady F) (hF : F w) {U V : Array Value} {r : Int} {t : Bool} (_hU : U.size = 19) (h4 : U[4]? = some (.int .i64 r)) (hV : V.size = 9) (ht : decide (0 ≤ r) = t)
   (hgo : ∀ w, F w → Stop (G (b₀.at (a₀.put ((ops₀[i₀]?).bind (·.dst)) (.bool t)) (.inRegion ops₀ rest₀ :: k₀)) cs) w) :
   Goes Try.prog true AtRel (SD Shun) Stop 30 (G { (base 59).at ⟨U, []⟩ k with mode := .returning } ((base 33).at ⟨V, []⟩ (.inRegion (cO (cF (cS body33))) [2, 3, 4] :: [.code (cS (cS body33))]) :: b₀.at a₀ (.inRegion ops₀ (i₀ :: rest₀) :: k₀) :: cs)) w := by
 have hD : ∀ w, SD Shun w w #[] := sd_idle
 have rl : ∀ {w w₁ : World}, F w → AtRel w w₁ → F w₁ := fun h r => hS.rel h r
 obtain ⟨v0, v1, v2, v3, v4, v5, v6, v7, v8, rfl⟩ : ∃ v0 v1 v2 v3 v4 v5 v6 v7 v8, V = #[v0, v1, v2, v3, v4, v5, v6, v7, v8] := by
   obtain ⟨l⟩ := V
   match l, hV with
   | [v0, v1, v2, v3, v4, v5, v6, v7, v8], _ => exact ⟨v0, v1, v2, v3, v4, v5, v6, v7, v8, rfl⟩
 clear hV
 replace hgo := Hd.mk hgo
 (refine Goes.step rfl (fun _ h₁ => ?_); replace hF := rl hF h₁; clear h₁)
 refine goes_leave1 rfl rfl Try.func59 rfl ⟨by exact hD _, ?_⟩
 have e4 : U.getD 4 undef = .int .i64 r := by simp [Array.getD_eq_getD_getElem?, h4]
 simp only [e4]
 simp only [cS, cF, cO, body33, Try.f33, Option.getD_some]
 walk_nrm
 repeat ((first | ((with_reducible refine g_opG ?_); first | (refine g_unw hD rfl rfl ?_; intro _ h₁; replace hF := rl hF h₁; clear h₁; walk_nrm) | (refine Goes.step rfl ?_; intro _ h₁; replace hF := rl hF h₁; clear h₁; refine goes_oper_k rfl rfl (by k_ne) fun K hK => ?_; go_simp; refine hK _ _ ⟨g_idle hD fun e he => by have hm := mem_listed he; simp [go_sem, *] at hm, ?_⟩; clear hK K; try w_num)) | ((first | ((with_reducible refine g_c (k' := ?_) true true hD ?_ ?_); rotate_left; focus exact rfl) | with_reducible refine g_r hD rfl ?_); intro _ h₁; replace hF := rl hF h₁; clear h₁)))
 (refine Goes.step rfl (fun _ h₁ => ?_); replace hF := rl hF h₁; clear h₁; refine goes_leave1 rfl rfl Try.func33 rfl ⟨hD _, ?_⟩; walk_nrm)
 exact Goes.stop fun w₁ h₁ => hgo.out _ (rl hF h₁)
theorem has_nil {b₀ : Frame} {a₀ : Act} {ops₀ : Array Oper} {i₀ : Nat} {rest₀ : List Nat} {k₀ : List Item} (hS : Steady F) (hK : ∀ w, F w → FnS Shun fa vs w) (hlen : vs.length < 1000000) (hF : F w) :
   Lone Try.prog N0 (fun S g w => S = Shun ∧ F w ∧ g = G (b₀.at (a₀.put ((ops₀[i₀]?).bind (·.dst)) (.bool (vs.any isNil))) (.inRegion ops₀ rest₀ :: k₀)) cs) Shun (G ((base 33).at ⟨#[.slice fa vs.length cap, .func (.func 34) #[] #[], undef, undef, undef, undef, undef, undef, undef], []⟩ [.code body33]) (b₀.at a₀ (.inRegion ops₀ (i₀ :: rest₀) :: k₀) :: cs)) w := by
 refine Lone.on (n := 60) (has_first (cap := cap) (vs := vs) (fa := fa) hS hF fun U w hF hU V hV _ => ?_)
 refine (idx_loop hS hK hlen vs.length 0 U w (by omega) hF hU).bind fun S' a' w' _ h => ?_
 obtain ⟨rfl, hF', U', r, k, hs, h4, hr, rfl⟩ := h
 exact Lone.goes (n := 30) (has_last hS hF' hs h4 hV (by simpa using hr) fun w h => ⟨rfl, h, rfl⟩)
end
end Go.Proofs.Ytblpmdolclalnaa
