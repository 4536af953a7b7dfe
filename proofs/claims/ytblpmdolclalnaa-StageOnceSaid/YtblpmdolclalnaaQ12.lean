/- The children of Chain[int] meet what the net asks of a child. More moves within a round's frame: blocks, an operation in the walk's style, the finish of a communication; the words of such a walk. The iterator seq(l) (function 32) of the laws, walked by goroutine 0 in a net: from its entry, or from its loop's head, to the next call of yield or to its return. Made by .. -/
import Derived.Test.YtblpmdolclalnaaQ02
import Derived.Test.YtblpmdolclalnaaQ03
import Derived.Test.YtblpmdolclalnaaQ09
import Derived.Test.YtblpmdolclalnaaQ10
import Derived.Test.YtblpmdolclalnaaQ11
import Derived.Conc.WgGenN3
set_option maxHeartbeats 16000000
set_option linter.unusedSimpArgs false
set_option linter.unusedVariables false
namespace Go.Proofs.Ytblpmdolclalnaa
open Go.Conc
open Go.ConcR (WgAt KK stA smA rd wr mk DC0)
open Go.ConcN (WgLive)
section
variable {q : ChP} {x : Flesh} {own : Nat → Prop} {s : KS} {Got : Cells} {Rd : Nat → Prop} {g : Goroutine} {w : World}
structure FleshC (q : ChP) (x : Flesh) : Prop where
 kid : x.Kid = q.Kid
 zero : x.zero = .int .i64 0
 gift : x.gift = noGift
 msg : x.msg = fun _ _ => True
 fin : x.Fin = q.Fin
 fuel : q.nfuel + 200 ≤ x.fuel
theorem noGift_or (Got : Cells) (v : Value) : (fun b y => Got b y ∨ noGift v b y) = Got := by funext b y; simp [noGift]
theorem kstop_done (hx : FleshC q x) (hd : s.ph = .done) (hr : AtRel0 Try.prog 66 q.Wg g w) (hf : ∀ w₁, KR 66 q.Wg own Got Rd w w₁ → q.Fin s w₁) : KStop Try.prog 66 q.Wg (q.pp.net x) own s Got Rd g w := by
 obtain ⟨h1, g', h2, h3⟩ := hr
 refine ⟨h1, ?_⟩
 have ha : (q.pp.net x).act s = .done := by show PP.act s = .done; simp [PP.act, hd]
 rw [ha]
 exact ⟨fun w₁ h₁ => by show x.Fin s w₁; rw [hx.fin]; exact hf w₁ h₁, g', h2, h3⟩
theorem sink_kid (hq : ChOK q) (hx : FleshC q x) (hk : q.nf ≤ s.kd) {e8 e13 : Nat} (he : s.env = [e8, e13]) (hF : SnkF own Got Rd q.Wg e8 e13 s.cin s.got w) {T : Array Value} (hT : SnkT q.Wg e8 e13 s.cin T) (hp : s.ph = .recv) : KStop Try.prog 66 q.Wg (q.pp.net x) own s Got Rd (sinkAt q.Wg T) w := by
 refine ⟨rfl, ?_⟩
 have ha : (q.pp.net x).act s = .recv s.cin := by show PP.act s = _; simp [PP.act, hp]
 rw [ha]
 have hz : (q.pp.net x).zero s = .int .i64 0 := by show zof x.zero s = _; simp [zof, hp, hx.zero]
 have hkf : ¬ s.kd < q.pp.nf := Nat.not_lt.2 hk
 refine ⟨by rw [hz]; exact sink_recv hT, fun v w₁ h₁ hok _ _ => ?_, fun _ w₁ h₁ => ?_⟩
 · obtain ⟨⟨n, rfl⟩, hlen, _⟩ := (hok : q.pp.okGot s v)
   have hlen' : s.got.length < q.n := hlen
   have hsm := hq.small
   show Goo Try.prog false own (KR 66 q.Wg own (fun b y => Got b y ∨ x.gift (.int .i64 n) b y) Rd) (KD q.Wg own (fun b y => Got b y ∨ x.gift (.int .i64 n) b y) Rd) (x.Kid own (q.pp.gotS s (.int .i64 n)) (fun b y => Got b y ∨ x.gift (.int .i64 n) b y) Rd) x.fuel _ w₁
   rw [hx.gift, noGift_or, hx.kid]
   refine Goo.mono (sink_got hT (by omega) (hF.rely h₁) fun T' w' hT' hF' => .inr ⟨hk, e8, e13, he, hF', ?_⟩) (by have := hx.fuel; omega)
   have hph : (q.pp.gotS s (.int .i64 n)).ph = .recv := by simp [PP.gotS, hkf]
   rw [hph]
   exact ⟨T', hT', rfl⟩
 · show Goo Try.prog false own (KR 66 q.Wg own Got Rd) (KD q.Wg own Got Rd) (x.Kid own (q.pp.endS s) Got Rd) x.fuel _ w₁
   rw [hx.kid]
   refine Goo.mono (sink_end hT (hF.rely h₁) fun g' w' hr hF' => .inr ⟨hk, e8, e13, he, hF', ?_⟩) (by have := hx.fuel; omega)
   have hph : (q.pp.endS s).ph = .done := by simp [PP.endS, hkf]
   rw [hph]
   exact hr
theorem fwd_kid_recv (hq : ChOK q) (hx : FleshC q x) (hk : s.kd < q.nf) {e12 e11 e10 : Nat} (he : s.env = [e12, e11, e10]) (hn : q.need own Got Rd s.kd) (hF : FwdF own Got Rd q.Wg e12 e11 e10 s.cin s.cout (q.fv s.kd) (q.X own Got Rd s.kd s.got) w) {T : Array Value}
   (hT : FwdT q.Wg e12 e11 e10 s.cin T) (hp : s.ph = .recv) : KStop Try.prog 66 q.Wg (q.pp.net x) own s Got Rd (fwdAt q.Wg s.cout T) w := by
 refine ⟨rfl, ?_⟩
 have ha : (q.pp.net x).act s = .recv s.cin := by show PP.act s = _; simp [PP.act, hp]
 rw [ha]
 have hz : (q.pp.net x).zero s = .int .i64 0 := by show zof x.zero s = _; simp [zof, hp, hx.zero]
 have hkf : s.kd < q.pp.nf := hk
 have hX := hq.firm own Got Rd s.kd
 refine ⟨by rw [hz]; exact fwd_recv hT, fun v w₁ h₁ hok _ _ => ?_, fun _ w₁ h₁ => ?_⟩
 · obtain ⟨⟨n, rfl⟩, hlen, _⟩ := (hok : q.pp.okGot s v)
   have hlen' : s.got.length < q.n := hlen
   show Goo Try.prog false own (KR 66 q.Wg own (fun b y => Got b y ∨ x.gift (.int .i64 n) b y) Rd) (KD q.Wg own (fun b y => Got b y ∨ x.gift (.int .i64 n) b y) Rd) (x.Kid own (q.pp.gotS s (.int .i64 n)) (fun b y => Got b y ∨ x.gift (.int .i64 n) b y) Rd) x.fuel _ w₁
   rw [hx.gift, noGift_or, hx.kid]
   refine Goo.mono (fwd_got (hX _ hn) (hX _ hn) (hq.calls own Got Rd s.kd s.got n hn hlen') (hq.held s.kd) hT (hF.rely (hX _ hn) h₁) fun T' w' hT' hF' => .inl ⟨hk, e12, e11, e10, he, hn, hF', ?_⟩) (by have := hx.fuel; omega)
   have hph : (q.pp.gotS s (.int .i64 n)).ph = .send (.int .i64 (q.phi s.kd n)) := by simp [PP.gotS, hk, ChP.pp]
   rw [hph]
   exact ⟨T', _, rfl, hT', rfl⟩
 · show Goo Try.prog false own (KR 66 q.Wg own Got Rd) (KD q.Wg own Got Rd) (x.Kid own (q.pp.endS s) Got Rd) x.fuel _ w₁
   rw [hx.kid]
   refine Goo.mono (fwd_end (hX _ hn) hT (hF.rely (hX _ hn) h₁) fun T' w' hF' => .inl ⟨hk, e12, e11, e10, he, hn, hF', ?_⟩) (by have := hx.fuel; omega)
   have hph : (q.pp.endS s).ph = .shut := by simp [PP.endS, hkf]
   rw [hph]
   exact ⟨T', rfl⟩
theorem fwd_kid_send (hq : ChOK q) (hx : FleshC q x) (hk : s.kd < q.nf) {e12 e11 e10 : Nat} (he : s.env = [e12, e11, e10]) (hn : q.need own Got Rd s.kd) (hF : FwdF own Got Rd q.Wg e12 e11 e10 s.cin s.cout (q.fv s.kd) (q.X own Got Rd s.kd s.got) w) {T : Array Value} {r : Int}
   (hT : FwdS q.Wg e12 e11 e10 s.cin s.cout r T) (hp : s.ph = .send (.int .i64 r)) : KStop Try.prog 66 q.Wg (q.pp.net x) own s Got Rd (fwdSend q.Wg s.cout T) w := by
 refine ⟨rfl, ?_⟩
 have ha : (q.pp.net x).act s = .send s.cout (.int .i64 r) := by show PP.act s = _; simp [PP.act, hp]
 rw [ha]
 have hz : (q.pp.net x).zero s = .tuple #[] := by show zof x.zero s = _; simp [zof, hp]
 have hX := hq.firm own Got Rd s.kd
 refine ⟨by rw [hz]; exact fwd_sends hT, fun b y h => ?_, fun w₁ h₁ => ⟨?_, ?_⟩⟩
 · have h' : x.gift (.int .i64 r) b y := h
   rw [hx.gift] at h'
   exact h'
 · show x.msg _ _
   rw [hx.msg]; trivial
 · show Goo Try.prog false own (KR 66 q.Wg own Got Rd) (KD q.Wg own Got Rd) (x.Kid own (PP.nextS s) Got Rd) x.fuel _ w₁
   rw [hx.kid]
   refine Goo.mono (fwd_sent (hX _ hn) hT (hF.rely (hX _ hn) h₁) fun T' w' hT' hF' => .inl ⟨hk, e12, e11, e10, he, hn, hF', ?_⟩) (by have := hx.fuel; omega)
   have hph : (PP.nextS s).ph = .recv := by simp [PP.nextS, hp]
   rw [hph]
   exact ⟨T', hT', rfl⟩
theorem fwd_kid_shut (hq : ChOK q) (hx : FleshC q x) (hk : s.kd < q.nf) {e12 e11 e10 : Nat} (he : s.env = [e12, e11, e10]) (hn : q.need own Got Rd s.kd) (hF : FwdF own Got Rd q.Wg e12 e11 e10 s.cin s.cout (q.fv s.kd) (q.X own Got Rd s.kd s.got) w) {T : Array Value}
   (hp : s.ph = .shut) : KStop Try.prog 66 q.Wg (q.pp.net x) own s Got Rd (fwdOut q.Wg s.cout T) w := by
 refine ⟨rfl, ?_⟩
 have ha : (q.pp.net x).act s = .shut s.cout := by show PP.act s = _; simp [PP.act, hp]
 rw [ha]
 have hX := hq.firm own Got Rd s.kd
 refine ⟨fwd_wakes T, fun k hc => ⟨_, rfl, fwd_shut hc, ?_⟩⟩
 show Goo Try.prog false own (KR 66 q.Wg own Got Rd) (KD q.Wg own Got Rd) (x.Kid own (PP.nextS s) Got Rd) x.fuel _ _
 rw [hx.kid]
 refine Goo.mono (Goo.imp (fun g' w' h => ?_) (Goo.of_goes (fwd_done (hX _ hn) (hF.chan (fun w k => hq.chan own Got Rd s.kd s.got _ k w hn) hc)))) (by have := hx.fuel; omega)
 refine .inl ⟨hk, e12, e11, e10, he, hn, h.2, ?_⟩
 have hph : (PP.nextS s).ph = .done := by simp [PP.nextS, hp]
 rw [hph]
 exact h.1
theorem chain_kid (hq : ChOK q) (hx : FleshC q x) : ∀ own s Got Rd g w, x.Kid own s Got Rd g w → KStop Try.prog 66 q.Wg (q.pp.net x) own s Got Rd g w := by
 intro own s Got Rd g w h
 rw [hx.kid] at h
 rcases h with ⟨hk, e12, e11, e10, he, hn, hF, h⟩ | ⟨hk, e8, e13, he, hF, h⟩
 · cases hp : s.ph with
   | recv =>
     rw [hp] at h
     obtain ⟨T, hT, rfl⟩ := h
     exact fwd_kid_recv hq hx hk he hn hF hT hp
   | send v =>
     rw [hp] at h
     obtain ⟨T, r, rfl, hT, rfl⟩ := h
     exact fwd_kid_send hq hx hk he hn hF hT hp
   | shut =>
     rw [hp] at h
     obtain ⟨T, rfl⟩ := h
     exact fwd_kid_shut hq hx hk he hn hF hp
   | done =>
     rw [hp] at h
     refine kstop_done hx hp h fun w₁ h₁ => ⟨fun _ => ⟨own, Got, Rd, hn, (hF.rely (hq.firm own Got Rd s.kd _ hn) h₁).x⟩, fun h' => absurd hk (Nat.not_lt.2 h')⟩
 · cases hp : s.ph with
   | recv =>
     rw [hp] at h
     obtain ⟨T, hT, rfl⟩ := h
     exact sink_kid hq hx hk he hF hT hp
   | send v => rw [hp] at h; exact h.elim
   | shut => rw [hp] at h; exact h.elim
   | done =>
     rw [hp] at h
     refine kstop_done hx hp h fun w₁ h₁ => ⟨fun h' => absurd h' (Nat.not_lt.2 hk), fun _ => ?_⟩
     obtain ⟨v, h1, h2, _⟩ := (hF.rely h₁).out
     exact ⟨e8, e13, v, he, h1, h2⟩
end
end Go.Proofs.Ytblpmdolclalnaa
namespace Go.Proofs.Ytblpmdolclalnaa
open Go.Conc
section
variable {P : Program} {main : Bool} {b : Frame} {a : Act} {k : List Item} {cs : List Frame} {w : World}
theorem stepGR_block {id : Nat} {c : Code} : stepG P main (G (b.atR a (.code (.block id c) :: k)) cs) w = .go (G (b.atR a (.code c :: .inBlock id :: k)) cs) w #[] := by simp [G, stepG, stepG.exec, Frame.atR]
theorem stepGR_inBlock {id : Nat} : stepG P main (G (b.atR a (.inBlock id :: k)) cs) w = .go (G (b.atR a k) cs) w #[] := by simp [G, stepG, stepG.exec, Frame.atR]
theorem goes_operR_k {ops : Array Oper} {i : Nat} {rest : List Nat} {o : Oper} {K : Goroutine → World → Array Event → Prop}
   (ho : ops[i]? = some o) (hw : Region.wanted o (yielded ops a.tmps) = true) (hd : ∀ c, o.op ≠ .defer c) (hk : b.kind ≠ .early)
   (h : ∀ K' : Act → World → Prop, (∀ a' w', K (G (b.atR a' (.inRegion ops rest :: k)) cs) w' (listed P b.fn a o w) → K' a' w') → uponK o a K' ((execOp a.eval o).run P w)) :
   (stepG P main (G (b.atR a (.inRegion ops (i :: rest) :: k)) cs) w).goes K := by
 have := h (fun a' w' => K (G (b.atR a' (.inRegion ops rest :: k)) cs) w' (listed P b.fn a o w)) (fun _ _ x => x)
 generalize hr : (execOp a.eval o).run P w = r at this
 match r, this with
 | .ok (.value v) w', this => rw [stepGR_value ho hw hd hk hr]; exact this
 | .ok .skip w', this => rw [stepGR_none ho hw hd hk hr]; exact this
theorem finish_sendR {ops : Array Oper} {i : Nat} {rest : List Nat} (cc : Array CommCase) (x : Int) (v : Value) (ok : Bool) :
   (G (b.atR a (.inRegion ops (i :: rest) :: k)) cs).finishComm P cc .send x v ok = G (b.atR (a.put ((ops[i]?).bind (·.dst)) undef) (.inRegion ops rest :: k)) cs := by
 simp [Goroutine.finishComm, commResult, G, Frame.finish_atR]
end
end Go.Proofs.Ytblpmdolclalnaa
namespace Go.Proofs.Ytblpmdolclalnaa
open Go.Conc Go.RowKit Go.Conc.Lib Go.ConcR.Gen Go.ConcN.Gen
open Go.ConcR (WgAt KK stA smA rd wr mk DC0)
open Go.ConcN (WgLive)
noncomputable def body32 : Code := Try.f32.body.getD .skip
noncomputable def lp32 : Code := cI (cI (cS body32))
noncomputable def bd32 : Code := cI (cF (cS (cS lp32)))
noncomputable def ops32 : Array Oper := cO (cF (cS bd32))
noncomputable def k32 : List Item := [.code (cS (cS bd32)), .inBlock 1, .code (cS (cS (cS lp32))), .inLoop lp32, .inBlock 0]
def seqV (kl : Nat) : Value := .func (.func 32) #[] #[ptr kl]
structure ItK (own : Nat → Prop) (Given : Cells) (kl : Nat) (sa : Option Addr) (cap : Nat) (xs : List Value) (w : World) : Prop where
 box : w.cell? ⟨kl, 0, none⟩ = some (.slice sa xs.length cap)
 obox : own kl ∧ ¬ Given kl 0
 elem : ∀ (i : Nat) (v : Value), xs[i]? = some v → ∃ bl o, sa = some ⟨bl, o, none⟩ ∧ w.cell? ⟨bl, o + i, none⟩ = some v ∧ own bl ∧ ¬ Given bl (o + i) ∧ ∃ n, v = .int .i64 n
structure ItU (kl : Nat) (yv : Value) (n i : Nat) (U : Array Value) : Prop where
 size : U.size = 17
 t0 : U[0]? = some yv
 t1 : U[1]? = some (ptr kl)
 t5 : U[5]? = some (.int .i64 n)
 t6 : U[6]? = some (.int .i64 i)
structure ItC (kl : Nat) (yv : Value) (n i : Nat) (v : Value) (U : Array Value) : Prop where
 u : ItU kl yv n i U
 t9 : U[9]? = some yv
 t13 : U[13]? = some v
theorem array17 (T : Array Value) (h : T.size = 17) : ∃ v0 v1 v2 v3 v4 v5 v6 v7 v8 v9 v10 v11 v12 v13 v14 v15 v16, T = #[v0, v1, v2, v3, v4, v5, v6, v7, v8, v9, v10, v11, v12, v13, v14, v15, v16] := by
 obtain ⟨l⟩ := T
 match l, h with
 | [v0, v1, v2, v3, v4, v5, v6, v7, v8, v9, v10, v11, v12, v13, v14, v15, v16], _ => exact ⟨v0, v1, v2, v3, v4, v5, v6, v7, v8, v9, v10, v11, v12, v13, v14, v15, v16, rfl⟩
section
variable {own : Nat → Prop} {Given : Cells} {Fz : Nat → Prop} {Wg kl cap : Nat} {sa : Option Addr} {xs : List Value} {yv : Value} {F : World → Prop} {w : World} {cs : List Frame} {i : Nat}
set_option maxRecDepth 100000 in
theorem it_more {Stop : Goroutine → World → Prop} (hF : F w) (rl : ∀ {w w₁ : World}, F w → MR 66 Wg own Given w w₁ → F w₁) (hI : ∀ w, F w → ItK own Given kl sa cap xs w) {U : Array Value} (hU : ItU kl yv xs.length i U) (hlen : xs.length < 1000000) {v : Value} (hv : xs[i]? = some v)
   (hS : ∀ U w, F w → ItC kl yv xs.length i v U → Stop (G ((base 32).at ⟨U, []⟩ (.inRegion ops32 [5, 6] :: k32)) cs) w) :
   Goes Try.prog true (MR 66 Wg own Given) (MD Wg own Given Fz) Stop 30 (G ((base 32).at ⟨U, []⟩ [.code lp32, .inLoop lp32, .inBlock 0]) cs) w := by
 have hD : ∀ w, MD Wg own Given Fz w w #[] := fun w => Gua.idle w
 obtain ⟨hs, t0, t1, t5, t6⟩ := hU
 obtain ⟨v0, v1, v2, v3, v4, v5, v6, v7, v8, v9, v10, v11, v12, v13, v14, v15, v16, rfl⟩ := array17 U hs
 simp only [List.getElem?_toArray, List.getElem?_cons_zero, List.getElem?_cons_succ, Option.some.injEq] at t0 t1 t5 t6
 subst t0 t1 t5 t6
 clear hs
 have hi : i < xs.length := (List.getElem?_eq_some_iff.1 hv).1
 have hlt : decide ((i : Int) < (xs.length : Int)) = true := decide_eq_true (by omega)
 replace hlen := Hd.mk hlen
 replace hv := Hd.mk hv
 replace hS := Hd.mk hS
 simp only [lp32, cS, cI, body32, Try.f32, Option.getD_some]
 repeat ((first | ((with_reducible refine g_opG ?_); first | (refine g_unw hD rfl rfl ?_; intro _ h₁; replace hF := rl hF h₁; clear h₁; walk_nrm) | (refine Goes.step rfl ?_; intro _ h₁; replace hF := rl hF h₁; clear h₁; refine goes_oper_k rfl rfl (by k_ne) fun K hK => ?_; go_simp; refine hK _ _ ⟨g_idle hD fun e he => by have hm := mem_listed he; simp [go_sem, *] at hm, ?_⟩; clear hK K; try w_num)) | ((first | ((with_reducible refine g_c (k' := ?_) true true hD ?_ ?_); rotate_left; focus exact rfl) | with_reducible refine g_r hD rfl ?_); intro _ h₁; replace hF := rl hF h₁; clear h₁)))
 (refine Goes.step rfl (fun _ h₁ => ?_); replace hF := rl hF h₁; clear h₁)
 refine goes_oper_k rfl rfl (by decide) (fun K hK => ?_)
 have h1 := (hI _ hF).box
 have h2 := (hI _ hF).obox
 go_simp
 refine hK _ _ ⟨gua_read fun e he => ?_, ?_⟩
 · have hm := mem_listed he
   simp [go_sem, h1] at hm
   exact ⟨_, hm, cell_lt h1, .inr h2⟩
 clear hK K h1 h2
 obtain ⟨bl, o, rfl, _⟩ := (hI _ hF).elem i v hv.out
 try walk_nrm
 repeat ((first | ((with_reducible refine g_opG ?_); first | (refine g_unw hD rfl rfl ?_; intro _ h₁; replace hF := rl hF h₁; clear h₁; walk_nrm) | (refine Goes.step rfl ?_; intro _ h₁; replace hF := rl hF h₁; clear h₁; refine goes_oper_k rfl rfl (by k_ne) fun K hK => ?_; go_simp; refine hK _ _ ⟨g_idle hD fun e he => by have hm := mem_listed he; simp [go_sem, *] at hm, ?_⟩; clear hK K; try w_num)) | ((first | ((with_reducible refine g_c (k' := ?_) true true hD ?_ ?_); rotate_left; focus exact rfl) | with_reducible refine g_r hD rfl ?_); intro _ h₁; replace hF := rl hF h₁; clear h₁)))
 (refine Goes.step rfl (fun _ h₁ => ?_); replace hF := rl hF h₁; clear h₁)
 refine goes_oper_k rfl rfl (by decide) (fun K hK => ?_)
 obtain ⟨bl', o', he', h1, h2, h3, n, hn⟩ := (hI _ hF).elem i v hv.out
 cases he'
 subst hn
 go_simp
 refine hK _ _ ⟨gua_read fun e he => ?_, ?_⟩
 · have hm := mem_listed he
   simp [go_sem, h1] at hm
   exact ⟨_, hm, cell_lt h1, .inr ⟨h2, h3⟩⟩
 clear hK K h1 h2 h3
 try walk_nrm
 exact Goes.stop fun w₁ h₁ => hS.out _ _ (rl hF h₁) ⟨⟨rfl, rfl, rfl, rfl, rfl⟩, rfl, rfl⟩
set_option maxRecDepth 100000 in
theorem it_done {Stop : Goroutine → World → Prop} {c : Frame} (hF : F w) (rl : ∀ {w w₁ : World}, F w → MR 66 Wg own Given w w₁ → F w₁) {U : Array Value} (hU : ItU kl yv xs.length xs.length U)
   (hS : ∀ w, F w → Stop (G (c.finish (.tuple #[])) cs) w) :
   Goes Try.prog true (MR 66 Wg own Given) (MD Wg own Given Fz) Stop 20 (G ((base 32).at ⟨U, []⟩ [.code lp32, .inLoop lp32, .inBlock 0]) (c :: cs)) w := by
 have hD : ∀ w, MD Wg own Given Fz w w #[] := fun w => Gua.idle w
 obtain ⟨hs, t0, t1, t5, t6⟩ := hU
 obtain ⟨v0, v1, v2, v3, v4, v5, v6, v7, v8, v9, v10, v11, v12, v13, v14, v15, v16, rfl⟩ := array17 U hs
 simp only [List.getElem?_toArray, List.getElem?_cons_zero, List.getElem?_cons_succ, Option.some.injEq] at t0 t1 t5 t6
 subst t0 t1 t5 t6
 clear hs
 have hlt : decide ((xs.length : Int) < (xs.length : Int)) = false := decide_eq_false (by omega)
 replace hS := Hd.mk hS
 simp only [lp32, cS, cI, body32, Try.f32, Option.getD_some]
 repeat ((first | ((with_reducible refine g_opG ?_); first | (refine g_unw hD rfl rfl ?_; intro _ h₁; replace hF := rl hF h₁; clear h₁; walk_nrm) | (refine Goes.step rfl ?_; intro _ h₁; replace hF := rl hF h₁; clear h₁; refine goes_oper_k rfl rfl (by k_ne) fun K hK => ?_; go_simp; refine hK _ _ ⟨g_idle hD fun e he => by have hm := mem_listed he; simp [go_sem, *] at hm, ?_⟩; clear hK K; try w_num)) | ((first | ((with_reducible refine g_c (k' := ?_) true true hD ?_ ?_); rotate_left; focus exact rfl) | with_reducible refine g_r hD rfl ?_); intro _ h₁; replace hF := rl hF h₁; clear h₁)))
 refine g_ctl hD rfl (fun w => stepG_leave (v := .tuple #[]) rfl rfl Try.func32 (results_none rfl _ _ _) (events_results_none rfl _ _)) (fun _ h₁ => ?_)
 replace hF := rl hF h₁
 clear h₁
 exact Goes.stop fun w₁ h₁ => hS.out _ (rl hF h₁)
set_option maxRecDepth 100000 in
theorem it_first {Stop : Goroutine → World → Prop} (hF : F w) (rl : ∀ {w w₁ : World}, F w → MR 66 Wg own Given w w₁ → F w₁) (hI : ∀ w, F w → ItK own Given kl sa cap xs w)
   (hS : ∀ U w, F w → ItU kl yv xs.length 0 U → Stop (G ((base 32).at ⟨U, []⟩ [.code lp32, .inLoop lp32, .inBlock 0]) cs) w) :
   Goes Try.prog true (MR 66 Wg own Given) (MD Wg own Given Fz) Stop 20 (G ((base 32).at ⟨#[yv, ptr kl, undef, undef, undef, undef, undef, undef, undef, undef, undef, undef, undef, undef, undef, undef, undef], []⟩ [.code body32]) cs) w := by
 have hD : ∀ w, MD Wg own Given Fz w w #[] := fun w => Gua.idle w
 replace hS := Hd.mk hS
 simp only [lp32, cS, cI, body32, Try.f32, Option.getD_some] at hS ⊢
 repeat ((first | ((with_reducible refine g_opG ?_); first | (refine g_unw hD rfl rfl ?_; intro _ h₁; replace hF := rl hF h₁; clear h₁; walk_nrm) | (refine Goes.step rfl ?_; intro _ h₁; replace hF := rl hF h₁; clear h₁; refine goes_oper_k rfl rfl (by k_ne) fun K hK => ?_; go_simp; refine hK _ _ ⟨g_idle hD fun e he => by have hm := mem_listed he; simp [go_sem, *] at hm, ?_⟩; clear hK K; try w_num)) | ((first | ((with_reducible refine g_c (k' := ?_) true true hD ?_ ?_); rotate_left; focus exact rfl) | with_reducible refine g_r hD rfl ?_); intro _ h₁; replace hF := rl hF h₁; clear h₁)))
 (refine Goes.step rfl (fun _ h₁ => ?_); replace hF := rl hF h₁; clear h₁)
 refine goes_oper_k rfl rfl (by decide) (fun K hK => ?_)
 have h1 := (hI _ hF).box
 have h2 := (hI _ hF).obox
 go_simp
 refine hK _ _ ⟨gua_read fun e he => ?_, ?_⟩
 · have hm := mem_listed he
   simp [go_sem, h1] at hm
   exact ⟨_, hm, cell_lt h1, .inr h2⟩
 clear hK K h1 h2
 try walk_nrm
 repeat ((first | ((first | ((with_reducible refine g_c (k' := ?_) true true hD ?_ ?_); rotate_left; focus exact rfl) | with_reducible refine g_r hD rfl ?_); intro _ h₁; replace hF := rl hF h₁; clear h₁)))
 (first | ((with_reducible refine g_opG ?_); first | (refine g_unw hD rfl rfl ?_; intro _ h₁; replace hF := rl hF h₁; clear h₁; walk_nrm) | (refine Goes.step rfl ?_; intro _ h₁; replace hF := rl hF h₁; clear h₁; refine goes_oper_k rfl rfl (by k_ne) fun K hK => ?_; go_simp; refine hK _ _ ⟨g_idle hD fun e he => by have hm := mem_listed he; simp [go_sem, *] at hm, ?_⟩; clear hK K; try w_num)) | ((first | ((with_reducible refine g_c (k' := ?_) true true hD ?_ ?_); rotate_left; focus exact rfl) | with_reducible refine g_r hD rfl ?_); intro _ h₁; replace hF := rl hF h₁; clear h₁))
 (first | ((with_reducible refine g_opG ?_); first | (refine g_unw hD rfl rfl ?_; intro _ h₁; replace hF := rl hF h₁; clear h₁; walk_nrm) | (refine Goes.step rfl ?_; intro _ h₁; replace hF := rl hF h₁; clear h₁; refine goes_oper_k rfl rfl (by k_ne) fun K hK => ?_; go_simp; refine hK _ _ ⟨g_idle hD fun e he => by have hm := mem_listed he; simp [go_sem, *] at hm, ?_⟩; clear hK K; try w_num)) | ((first | ((with_reducible refine g_c (k' := ?_) true true hD ?_ ?_); rotate_left; focus exact rfl) | with_reducible refine g_r hD rfl ?_); intro _ h₁; replace hF := rl hF h₁; clear h₁))
 repeat ((first | ((with_reducible refine g_opG ?_); first | (refine g_unw hD rfl rfl ?_; intro _ h₁; replace hF := rl hF h₁; clear h₁; walk_nrm) | (refine Goes.step rfl ?_; intro _ h₁; replace hF := rl hF h₁; clear h₁; refine goes_oper_k rfl rfl (by k_ne) fun K hK => ?_; go_simp; refine hK _ _ ⟨g_idle hD fun e he => by have hm := mem_listed he; simp [go_sem, *] at hm, ?_⟩; clear hK K; try w_num)) | ((first | ((with_reducible refine g_c (k' := ?_) true false hD ?_ ?_); rotate_left; focus exact rfl) | with_reducible refine g_r hD rfl ?_); intro _ h₁; replace hF := rl hF h₁; clear h₁)))
 (first | ((with_reducible refine g_opG ?_); first | (refine g_unw hD rfl rfl ?_; intro _ h₁; replace hF := rl hF h₁; clear h₁; walk_nrm) | (refine Goes.step rfl ?_; intro _ h₁; replace hF := rl hF h₁; clear h₁; refine goes_oper_k rfl rfl (by k_ne) fun K hK => ?_; go_simp; refine hK _ _ ⟨g_idle hD fun e he => by have hm := mem_listed he; simp [go_sem, *] at hm, ?_⟩; clear hK K; try w_num)) | ((first | ((with_reducible refine g_c (k' := ?_) true true hD ?_ ?_); rotate_left; focus exact rfl) | with_reducible refine g_r hD rfl ?_); intro _ h₁; replace hF := rl hF h₁; clear h₁))
 exact Goes.stop fun w₁ h₁ => hS.out _ _ (rl hF h₁) ⟨rfl, rfl, rfl, rfl, rfl⟩
set_option maxRecDepth 100000 in
theorem it_next {Stop : Goroutine → World → Prop} (hF : F w) (rl : ∀ {w w₁ : World}, F w → MR 66 Wg own Given w w₁ → F w₁) {U : Array Value} (hU : ItU kl yv xs.length i U) (hi : i < xs.length) (hlen : xs.length < 1000000)
   (hS : ∀ U w, F w → ItU kl yv xs.length (i + 1) U → Stop (G ((base 32).at ⟨U, []⟩ [.code lp32, .inLoop lp32, .inBlock 0]) cs) w) :
   Goes Try.prog true (MR 66 Wg own Given) (MD Wg own Given Fz) Stop 20 (G ((base 32).at ⟨U.setIfInBounds 14 (.bool true), []⟩ (.inRegion ops32 [6] :: k32)) cs) w := by
 have hD : ∀ w, MD Wg own Given Fz w w #[] := fun w => Gua.idle w
 obtain ⟨hs, t0, t1, t5, t6⟩ := hU
 obtain ⟨v0, v1, v2, v3, v4, v5, v6, v7, v8, v9, v10, v11, v12, v13, v14, v15, v16, rfl⟩ := array17 U hs
 simp only [List.getElem?_toArray, List.getElem?_cons_zero, List.getElem?_cons_succ, Option.some.injEq] at t0 t1 t5 t6
 subst t0 t1 t5 t6
 clear hs
 have hadd : IntKind.i64.wrap ((i : Int) + 1) = ((i + 1 : Nat) : Int) := by rw [IntKind.wrap_i64]; omega
 replace hlen := Hd.mk hlen
 replace hS := Hd.mk hS
 simp only [ops32, k32, lp32, bd32, cS, cF, cI, cO, body32, Try.f32, Option.getD_some] at hS ⊢
 try walk_nrm
 repeat ((first | ((with_reducible refine g_opG ?_); first | (refine g_unw hD rfl rfl ?_; intro _ h₁; replace hF := rl hF h₁; clear h₁; walk_nrm) | (refine Goes.step rfl ?_; intro _ h₁; replace hF := rl hF h₁; clear h₁; refine goes_oper_k rfl rfl (by k_ne) fun K hK => ?_; go_simp; refine hK _ _ ⟨g_idle hD fun e he => by have hm := mem_listed he; simp [go_sem, *] at hm, ?_⟩; clear hK K; try w_num)) | ((first | ((with_reducible refine g_c (k' := ?_) false true hD ?_ ?_); rotate_left; focus exact rfl) | with_reducible refine g_r hD rfl ?_); intro _ h₁; replace hF := rl hF h₁; clear h₁)))
 (first | ((with_reducible refine g_opG ?_); first | (refine g_unw hD rfl rfl ?_; intro _ h₁; replace hF := rl hF h₁; clear h₁; walk_nrm) | (refine Goes.step rfl ?_; intro _ h₁; replace hF := rl hF h₁; clear h₁; refine goes_oper_k rfl rfl (by k_ne) fun K hK => ?_; go_simp; refine hK _ _ ⟨g_idle hD fun e he => by have hm := mem_listed he; simp [go_sem, *] at hm, ?_⟩; clear hK K; try w_num)) | ((first | ((with_reducible refine g_c (k' := ?_) true true hD ?_ ?_); rotate_left; focus exact rfl) | with_reducible refine g_r hD rfl ?_); intro _ h₁; replace hF := rl hF h₁; clear h₁))
 exact Goes.stop fun w₁ h₁ => hS.out _ _ (rl hF h₁) ⟨rfl, rfl, rfl, rfl, rfl⟩
end
end Go.Proofs.Ytblpmdolclalnaa
namespace Go.Proofs.Ytblpmdolclalnaa
open Go.Conc
open Go.ConcN (WgLive)
structure LoopF (own : Nat → Prop) (Given : Cells) (Fz : Nat → Prop) (n0 l d : Nat) (r : Loop) (w : World) : Prop where
 ol : own l ∧ (∀ x, ¬ Given l x) ∧ ¬ Fz l ∧ n0 ≤ l
 od : own d ∧ (∀ x, ¬ Given d x) ∧ ¬ Fz d ∧ n0 ≤ d
 rcd : w.heap[l]? = some (.loop r)
 dfr : w.heap[d]? = some (.deferred (some []))
section
variable {own : Nat → Prop} {Given Given' : Cells} {Fz : Nat → Prop} {Wg n0 l d : Nat} {r r' : Loop} {w w₁ : World} {ty : TypeId}
theorem LoopF.rely (h : LoopF own Given Fz n0 l d r w) (q : MR ty Wg own Given w w₁) : LoopF own Given Fz n0 l d r w₁ :=
 ⟨h.ol, h.od, (q.blk l (Array.getElem?_eq_some_iff.1 h.rcd).1 fun x => ⟨h.ol.1, h.ol.2.1 x⟩).trans h.rcd, (q.blk d (Array.getElem?_eq_some_iff.1 h.dfr).1 fun x => ⟨h.od.1, h.od.2.1 x⟩).trans h.dfr⟩
theorem LoopF.more (h : LoopF own Given Fz n0 l d r w) (hb : ∀ b, b < w.heap.size → w₁.heap[b]? = w.heap[b]?) : LoopF own Given Fz n0 l d r w₁ :=
 ⟨h.ol, h.od, (hb l (Array.getElem?_eq_some_iff.1 h.rcd).1).trans h.rcd, (hb d (Array.getElem?_eq_some_iff.1 h.dfr).1).trans h.dfr⟩
theorem LoopF.ne (h : LoopF own Given Fz n0 l d r w) : d ≠ l := fun e => by have := h.rcd; rw [← e, h.dfr] at this; cases this
theorem LoopF.put (h : LoopF own Given Fz n0 l d r w) : LoopF own Given Fz n0 l d r' (w.putObj l (.loop r')) :=
 ⟨h.ol, h.od, World.putObj_heap_same (Array.getElem?_eq_some_iff.1 h.rcd).1, (World.putObj_heap_other h.ne).trans h.dfr⟩
theorem LoopF.share {Fz' : Nat → Prop} (h : LoopF own Given Fz n0 l d r w) (hl : ∀ x, ¬ Given' l x) (hd : ∀ x, ¬ Given' d x) (fl : ¬ Fz' l) (fd : ¬ Fz' d) : LoopF own Given' Fz' n0 l d r w :=
 ⟨⟨h.ol.1, hl, fl, h.ol.2.2.2⟩, ⟨h.od.1, hd, fd, h.od.2.2.2⟩, h.rcd, h.dfr⟩
theorem LoopF.set {b o : Nat} {v : Value} {cs : Array Value} {t : TypeId} {f : Nat × Nat} (h : LoopF own Given Fz n0 l d r w) (hc : w.heap[b]? = some (.cells cs t f)) : LoopF own Given Fz n0 l d r (w.setCell ⟨b, o, none⟩ v) :=
 ⟨h.ol, h.od, (setCell_ne (fun e : l = b => by have := h.rcd; rw [e, hc] at this; cases this)).trans h.rcd, (setCell_ne (fun e : d = b => by have := h.dfr; rw [e, hc] at this; cases this)).trans h.dfr⟩
theorem gua_put {Writ Read : Cells} {es : Array Event} (hl : w.heap[l]? = some (.loop r)) (hw : ∀ o, Writ l o) (he : ∀ e ∈ es, e = ⟨.obj l, false, false⟩ ∨ e = ⟨.obj l, true, false⟩) : Gua true Wg Writ Read w (w.putObj l (.loop r')) es := by
 have hlt := (Array.getElem?_eq_some_iff.1 hl).1
 have hsz : (w.putObj l (.loop r')).heap.size = w.heap.size := World.putObj_size
 have hne : ∀ b, b ≠ l → (w.putObj l (.loop r')).heap[b]? = w.heap[b]? := fun b hb => World.putObj_heap_other hb
 have hat : (w.putObj l (.loop r')).heap[l]? = some (.loop r') := World.putObj_heap_same hlt
 have hncs : ∀ b, CS (w.putObj l (.loop r')) b ↔ CS w b := fun b => by
   by_cases hb : b = l
   · subst hb
     unfold CS
     rw [hat, hl]
     simp
   · exact CS.eq (hne b hb)
 refine ⟨Nat.le_of_eq hsz.symm, fun b _ hn => hne b fun e => hn 0 (e ▸ hw 0), fun b o _ hn => cell?_eq (hne b fun e => hn (e ▸ hw o)) o, fun b c e f hc => ⟨c, (hne b fun e' => by rw [e', hl] at hc; cases hc).trans hc, rfl⟩, rfl, rfl, rfl, fun b _ => not_congr (hncs b), fun e hev => ?_⟩
 have hnc : Nc (w.putObj l (.loop r')) l := fun hcs => by
   obtain ⟨_, _, _, _, _, _, hx⟩ := hcs
   rw [hat] at hx; cases hx
 refine .inr (.inr (.inl ⟨rfl, l, ?_⟩))
 rcases he e hev with rfl | rfl
 · exact ⟨false, rfl, hnc, by rw [hsz]; exact hlt⟩
 · exact ⟨true, rfl, hnc, by rw [hsz]; exact hlt⟩
theorem gua_look {Writ Read : Cells} {es : Array Event} (hl : w.heap[l]? = some (.loop r)) (he : ∀ e ∈ es, e = ⟨.obj l, false, false⟩) : Gua true Wg Writ Read w w es := by
 refine ⟨Nat.le_refl _, fun _ _ _ => rfl, fun _ _ _ _ => rfl, fun _ c _ _ h => ⟨c, h, rfl⟩, rfl, rfl, rfl, fun _ _ => Iff.rfl, fun e hev => .inr (.inr (.inl ⟨rfl, l, false, he e hev, fun hcs => ?_, (Array.getElem?_eq_some_iff.1 hl).1⟩))⟩
 obtain ⟨_, _, _, _, _, _, hx⟩ := hcs
 rw [hl] at hx; cases hx
theorem seen_obj {P : Program} {fn : FuncId} {e : Event} (h : e ∈ seen P fn #[⟨.obj l, false, false⟩, ⟨.obj l, true, false⟩]) : e = ⟨.obj l, false, false⟩ ∨ e = ⟨.obj l, true, false⟩ := by
 have := mem_seen h
 simpa using this
theorem CWcell {b o : Nat} {v : Value} (hl : w.heap[l]? = some (.loop r)) (h : w.cell? ⟨b, o, none⟩ = some v) : (w.putObj l (.loop r')).cell? ⟨b, o, none⟩ = some v := by
 refine (cell?_eq (World.putObj_heap_other fun e => ?_) o).trans h
 subst e
 simp [World.cell?, hl] at h
end
end Go.Proofs.Ytblpmdolclalnaa
namespace Go.Proofs.Ytblpmdolclalnaa
open Go.Conc Go.RowKit Go.Conc.Lib Go.ConcR.Gen Go.ConcN.Gen
open Go.ConcR (WgAt KK stA smA rd wr mk DC0)
open Go.ConcN (WgLive)
@[go_sem] theorem ev_store_func (P : Program) (w : World) (es : Array Event) (a : Addr) (m : Go.Mode) (fn : Fn) (fr cp : Array Value) : (store a (.func fn fr cp) m).events P w es = storedEv P w es a (.func fn fr cp) m := events_store P w es a _ m rfl
@[go_sem] theorem rn_store_func (P : Program) (w : World) (a : Addr) (m : Go.Mode) (fn : Fn) (fr cp : Array Value) : (store a (.func fn fr cp) m).run P w = stored P w a (.func fn fr cp) m := run_store P w a _ m rfl
/-! ### the memory outside: what lay there at the call's beginning -/
structure Out (n0 : Nat) (w0 : World) (Given : Cells) (w : World) : Prop where
 size : n0 ≤ w.heap.size
 cell : ∀ b x, b < n0 → ¬ Given b x → w.cell? ⟨b, x, none⟩ = w0.cell? ⟨b, x, none⟩
 blk : ∀ b, b < n0 → (∀ x, ¬ Given b x) → w.heap[b]? = w0.heap[b]?
 form : ∀ (b : Nat) (c : Array Value) (e : TypeId) (f : Nat × Nat), b < n0 → w0.heap[b]? = some (Obj.cells c e f) → ∃ c' : Array Value, w.heap[b]? = some (Obj.cells c' e f) ∧ c'.size = c.size
 os : w.os = w0.os
 out : w.output = w0.output
 tape : w.tape = w0.tape
section
variable {n0 : Nat} {w0 w w₁ : World} {own : Nat → Prop} {Given Given' : Cells} {ty : TypeId} {Wg : Nat}
theorem Out.refl (h : n0 ≤ w.heap.size) : Out n0 w Given w := ⟨h, fun _ _ _ _ => rfl, fun _ _ _ => rfl, fun _ c _ _ _ h => ⟨c, h, rfl⟩, rfl, rfl, rfl⟩
theorem Out.rel {Keep : Cells} (h : Out n0 w0 Given w) (hk : ∀ b x, b < n0 → ¬ Given b x → Keep b x) (r : Rel ty Wg Keep w w₁) : Out n0 w0 Given w₁ :=
 ⟨Nat.le_trans h.size r.size, fun b x hb hg => (r.cell b x (Nat.lt_of_lt_of_le hb h.size) (hk b x hb hg)).trans (h.cell b x hb hg),
  fun b hb hg => (r.blk b (Nat.lt_of_lt_of_le hb h.size) fun x => hk b x hb (hg x)).trans (h.blk b hb hg),
  fun b c e f hb hc => by
    obtain ⟨c1, h1, h2⟩ := h.form b c e f hb hc
    obtain ⟨c2, h3, h4⟩ := r.form b c1 e f h1
    exact ⟨c2, h3, h4.trans h2⟩, r.os.trans h.os, r.out.trans h.out, r.tape.trans h.tape⟩
theorem Out.rely (h : Out n0 w0 Given w) (ho : ∀ b, b < n0 → own b) (r : MR ty Wg own Given w w₁) : Out n0 w0 Given w₁ := h.rel (fun b _ hb hg => ⟨ho b hb, hg⟩) r
theorem Out.less (h : Out n0 w0 Given w) (hg : ∀ b x, b < n0 → Given b x → Given' b x) : Out n0 w0 Given' w :=
 ⟨h.size, fun b x hb hn => h.cell b x hb fun y => hn (hg b x hb y), fun b hb hn => h.blk b hb fun x y => hn x (hg b x hb y), h.form, h.os, h.out, h.tape⟩
theorem Out.more (h : Out n0 w0 Given w) (hsz : w.heap.size ≤ w₁.heap.size) (hb : ∀ b, b < n0 → w₁.heap[b]? = w.heap[b]?) (hos : w₁.os = w.os) (hout : w₁.output = w.output) (ht : w₁.tape = w.tape) : Out n0 w0 Given w₁ :=
 ⟨Nat.le_trans h.size hsz, fun b x hx hg => (cell?_eq (hb b hx) x).trans (h.cell b x hx hg), fun b hx hg => (hb b hx).trans (h.blk b hx hg), fun b c e f hx hc => by rw [hb b hx]; exact h.form b c e f hx hc, hos.trans h.os, hout.trans h.out, ht.trans h.tape⟩
theorem Out.alloc (h : Out n0 w0 Given w) (o : Obj) : Out n0 w0 Given (w.alloc o) := h.more (by simp) (fun b hb => heap_alloc_old _ _ b (Nat.lt_of_lt_of_le hb h.size)) rfl rfl rfl
theorem Out.set (h : Out n0 w0 Given w) {b o : Nat} (v : Value) (hb : n0 ≤ b) : Out n0 w0 Given (w.setCell ⟨b, o, none⟩ v) := h.more (by simp [World.setCell]) (fun b' hb' => setCell_ne (by show b' ≠ b; omega)) rfl rfl rfl
theorem Out.put (h : Out n0 w0 Given w) {b : Nat} (o : Obj) (hb : n0 ≤ b) : Out n0 w0 Given (w.putObj b o) := h.more (by simp) (fun b' hb' => World.putObj_heap_other (by omega)) rfl rfl rfl
end
structure ChM where
 q : ChP
 cs : List Frame
 Shun : Nat → Prop
 n0 : Nat
 w0 : World
 inV : Value
 fsV : Value
 gv : Nat → Cells
 rdx : Nat → Nat → Prop
 xs : List Value
def FsAt (m : ChM) : Prop := ∃ fa cap, m.fsV = .slice fa m.q.nf cap ∧ ∀ s, s < m.q.nf → ∃ bf o, fa = some ⟨bf, o, none⟩ ∧ bf < m.n0 ∧ ¬ m.Shun bf ∧ (∀ s' x, ¬ m.gv s' bf x) ∧ m.w0.cell? ⟨bf, o + s, none⟩ = some (m.q.fv s)
structure ItOK (m : ChM) (kl : Nat) (sa : Option Addr) (cap : Nat) : Prop where
 fv : m.inV = seqV kl
 low : kl < m.n0 ∧ ¬ m.Shun kl ∧ ∀ s x, ¬ m.gv s kl x
 box : m.w0.cell? ⟨kl, 0, none⟩ = some (.slice sa m.xs.length cap)
 elem : ∀ (i : Nat) (v : Value), m.xs[i]? = some v → ∃ bl o, sa = some ⟨bl, o, none⟩ ∧ bl < m.n0 ∧ ¬ m.Shun bl ∧ (∀ s x, ¬ m.gv s bl x) ∧ m.w0.cell? ⟨bl, o + i, none⟩ = some v
structure ChMOK (m : ChM) : Prop where
 q : ChOK m.q
 few : m.q.nf ≤ 16
 wg : m.n0 ≤ m.q.Wg
 c0 : m.n0 ≤ m.q.c0
 gvB : ∀ s b x, m.gv s b x → b < m.n0 ∧ ¬ m.Shun b
 rdB : ∀ s b, m.rdx s b → b < m.n0 ∧ ¬ m.Shun b
 apart : ∀ s s' b x, m.gv s b x → ¬ m.rdx s' b
 apart' : ∀ s s' b x, s ≠ s' → m.gv s b x → ¬ m.gv s' b x
 need : ∀ own Got Rd s, (∀ b x, m.gv s b x → Got b x) → (∀ b, m.rdx s b → Rd b) → m.q.need own Got Rd s
 x0 : ∀ own Got Rd s w, s < m.q.nf → (∀ b x, m.gv s b x ∨ m.rdx s b → w.cell? ⟨b, x, none⟩ = m.w0.cell? ⟨b, x, none⟩) →
   (∀ (b : Nat) (c : Array Value) (e : TypeId) (f : Nat × Nat), b < m.n0 → m.w0.heap[b]? = some (Obj.cells c e f) → ∃ c' : Array Value, w.heap[b]? = some (Obj.cells c' e f) ∧ c'.size = c.size) → m.q.X own Got Rd s [] w
 fs : FsAt m
 fn : ∀ s, s < m.q.nf → ∃ f fr cp, m.q.fv s = .func f fr cp
 it : ∃ kl sa cap, ItOK m kl sa cap
 xs : m.xs.length ≤ m.q.n ∧ ∀ v ∈ m.xs, isI v
/-! ### what goroutine 0 knows -/
structure CG (m : ChM) (own : Nat → Prop) (Given : Cells) (Fz : Nat → Prop) (p e7 e8 : Nat) : Prop where
 outer : ∀ b, b < m.n0 → own b
 given : ∀ b x, b < m.n0 → Given b x → m.Shun b ∨ ∃ s, s < p ∧ m.gv s b x
 fz : ∀ b, b < m.n0 → Fz b → ∃ s, s < p ∧ m.rdx s b
 wg : ∀ x, Given m.q.Wg x
 n7 : m.n0 ≤ e7 ∧ m.n0 ≤ e8 ∧ e7 ≠ e8
 o7 : own e7 ∧ (∀ x, ¬ Given e7 x)
 o8 : own e8 ∧ (∀ x, ¬ Given e8 x)
 f8 : p ≤ m.q.nf → ¬ Fz e8
 c0 : p = 0 → own m.q.c0 ∧ (∀ x, ¬ Given m.q.c0 x) ∧ ¬ Fz m.q.c0
structure CW (m : ChM) (Given : Cells) (Fz : Nat → Prop) (p e7 e8 ci : Nat) (w : World) : Prop where
 live : WgLive 66 m.q.Wg w
 c7 : w.cell? ⟨e7, 0, none⟩ = some (.chan (some m.q.c0))
 c8 : w.cell? ⟨e8, 0, none⟩ = some (.chan (some ci))
 b8 : ∃ cs : Array Value, w.heap[e8]? = some (.cells cs 75 (0, 0))
 out : Out m.n0 m.w0 Given w
 gsz : ∀ b x, Given b x → b < w.heap.size
 fsz : ∀ b, Fz b → b < w.heap.size
 lt : ci < w.heap.size
 low : m.n0 ≤ ci
 ch0 : p = 0 → w.heap[m.q.c0]? = some (.chan 0 #[] false 0 0 false)
section
variable {m : ChM} {own : Nat → Prop} {Given : Cells} {Fz : Nat → Prop} {p e7 e8 ci : Nat} {w w₁ : World}
theorem CW.rely (g : CG m own Given Fz p e7 e8) (h : CW m Given Fz p e7 e8 ci w) (r : MR 66 m.q.Wg own Given w w₁) : CW m Given Fz p e7 e8 ci w₁ := by
 obtain ⟨cs, hc⟩ := h.b8
 obtain ⟨cs', hc', _⟩ := r.form _ _ _ _ hc
 refine ⟨r.live h.live, (r.cell e7 0 (cell_lt h.c7) ⟨g.o7.1, g.o7.2 0⟩).trans h.c7, (r.cell e8 0 (cell_lt h.c8) ⟨g.o8.1, g.o8.2 0⟩).trans h.c8, ⟨cs', hc'⟩, h.out.rely g.outer r,
   fun b x hb => Nat.lt_of_lt_of_le (h.gsz b x hb) r.size, fun b hb => Nat.lt_of_lt_of_le (h.fsz b hb) r.size, Nat.lt_of_lt_of_le h.lt r.size, h.low, fun hp => ?_⟩
 have h0 := h.ch0 hp
 rw [r.blk m.q.c0 (Array.getElem?_eq_some_iff.1 h0).1 fun x => ⟨(g.c0 hp).1, (g.c0 hp).2.1 x⟩]
 exact h0
theorem CW.more (h : CW m Given Fz p e7 e8 ci w) (hsz : w.heap.size ≤ w₁.heap.size) (hb : ∀ b, b < w.heap.size → w₁.heap[b]? = w.heap[b]?) (hos : w₁.os = w.os) (hout : w₁.output = w.output) (ht : w₁.tape = w.tape) : CW m Given Fz p e7 e8 ci w₁ := by
 obtain ⟨cs, hc⟩ := h.b8
 obtain ⟨st, sm, hl⟩ := h.live
 exact ⟨⟨st, sm, hl.of_block (hb _ (Array.getElem?_eq_some_iff.1 hl).1)⟩, (cell?_eq (hb e7 (cell_lt h.c7)) 0).trans h.c7, (cell?_eq (hb e8 (cell_lt h.c8)) 0).trans h.c8, ⟨cs, (hb e8 (cell_lt h.c8)).trans hc⟩,
   h.out.more hsz (fun b hx => hb b (Nat.lt_of_lt_of_le hx h.out.size)) hos hout ht, fun b x hx => Nat.lt_of_lt_of_le (h.gsz b x hx) hsz, fun b hx => Nat.lt_of_lt_of_le (h.fsz b hx) hsz, Nat.lt_of_lt_of_le h.lt hsz, h.low, fun hp => by
   have h0 := h.ch0 hp
   rw [hb _ (Array.getElem?_eq_some_iff.1 h0).1]; exact h0⟩
theorem CW.alloc (h : CW m Given Fz p e7 e8 ci w) (o : Obj) : CW m Given Fz p e7 e8 ci (w.alloc o) := h.more (by simp) (fun b hb => heap_alloc_old _ _ b hb) rfl rfl rfl
theorem CW.set (h : CW m Given Fz p e7 e8 ci w) {b o : Nat} {v : Value} {cs : Array Value} {t : TypeId} (hc : w.heap[b]? = some (.cells cs t (0, 0))) (ht : t ≠ 66) (hb : m.n0 ≤ b) (h7 : b ≠ e7) (h8 : b ≠ e8) : CW m Given Fz p e7 e8 ci (w.setCell ⟨b, o, none⟩ v) := by
 have hne : ∀ b', b' ≠ b → (w.setCell ⟨b, o, none⟩ v).heap[b']? = w.heap[b']? := fun b' hb' => setCell_ne hb'
 obtain ⟨cs, hc8⟩ := h.b8
 obtain ⟨st, sm, hl⟩ := h.live
 have hsz : (w.setCell ⟨b, o, none⟩ v).heap.size = w.heap.size := by simp [World.setCell]
 exact ⟨⟨st, sm, hl.of_block (hne _ (Ne.symm (wg_typ h.live hc ht)))⟩, (cell?_eq (hne e7 (Ne.symm h7)) 0).trans h.c7, (cell?_eq (hne e8 (Ne.symm h8)) 0).trans h.c8, ⟨cs, (hne e8 (Ne.symm h8)).trans hc8⟩, h.out.set v hb, fun b x hx => by rw [hsz]; exact h.gsz b x hx, fun b hx => by rw [hsz]; exact h.fsz b hx, by rw [hsz]; exact h.lt, h.low, fun hp => by
   have h0 := h.ch0 hp
   rw [hne _ (fun e => by rw [e, hc] at h0; cases h0)]; exact h0⟩
theorem CW.set8 (g : CG m own Given Fz p e7 e8) (h : CW m Given Fz p e7 e8 ci w) {co : Nat} (hlt : co < w.heap.size) (hlo : m.n0 ≤ co) : CW m Given Fz p e7 e8 co (w.setCell ⟨e8, 0, none⟩ (.chan (some co))) := by
 obtain ⟨cs, hc⟩ := h.b8
 obtain ⟨st, sm, hl⟩ := h.live
 have hne : ∀ b', b' ≠ e8 → (w.setCell ⟨e8, 0, none⟩ (.chan (some co))).heap[b']? = w.heap[b']? := fun b' hb' => setCell_ne hb'
 have hsz : (w.setCell ⟨e8, 0, none⟩ (.chan (some co))).heap.size = w.heap.size := by simp [World.setCell]
 have at' : (w.setCell ⟨e8, 0, none⟩ (.chan (some co))).heap[e8]? = some (.cells (cs.setIfInBounds 0 (.chan (some co))) 75 (0, 0)) := by
   unfold World.setCell
   simp [Array.getElem?_modify, hc]
 have hlen : 0 < cs.size := by
   have h0 := h.c8
   simp only [World.cell?, hc] at h0
   cases hh : cs[0]? with
   | none => simp [hh] at h0
   | some x => exact (Array.getElem?_eq_some_iff.1 hh).1
 exact ⟨⟨st, sm, hl.of_block (hne _ (Ne.symm (wg_typ h.live hc (by decide))))⟩, (cell?_eq (hne e7 g.n7.2.2) 0).trans h.c7, by simp [World.cell?, at', hlen], ⟨_, at'⟩, h.out.set _ g.n7.2.1, fun b x hx => by rw [hsz]; exact h.gsz b x hx, fun b hx => by rw [hsz]; exact h.fsz b hx, by rw [hsz]; exact hlt, hlo, fun hp => by
   have h0 := h.ch0 hp
   rw [hne _ (fun e => by rw [e, hc] at h0; cases h0)]; exact h0⟩
theorem CW.outer (g : CG m own Given Fz p e7 e8) (h : CW m Given Fz p e7 e8 ci w) {b x : Nat} {v : Value} (hb : b < m.n0) (hs : ¬ m.Shun b) (hg : ∀ s x, ¬ m.gv s b x) (hv : m.w0.cell? ⟨b, x, none⟩ = some v) : w.cell? ⟨b, x, none⟩ = some v ∧ own b ∧ ¬ Given b x := by
 have hn : ¬ Given b x := fun hx => (g.given b x hb hx).elim hs fun ⟨s, _, h⟩ => hg s x h
 exact ⟨(h.out.cell b x hb hn).trans hv, g.outer b hb, hn⟩
theorem CW.it (hm : ChMOK m) (g : CG m own Given Fz p e7 e8) (h : CW m Given Fz p e7 e8 ci w) {kl cap : Nat} {sa : Option Addr} (hi : ItOK m kl sa cap) : ItK own Given kl sa cap m.xs w := by
 have hb := h.outer g hi.low.1 hi.low.2.1 hi.low.2.2 hi.box
 refine ⟨hb.1, hb.2, fun i v hv => ?_⟩
 obtain ⟨bl, o, h1, h2, h3, h4, h5⟩ := hi.elem i v hv
 have hc := h.outer g h2 h3 h4 h5
 exact ⟨bl, o, h1, hc.1, hc.2.1, hc.2.2, hm.xs.2 v (List.mem_of_getElem? hv)⟩
end
end Go.Proofs.Ytblpmdolclalnaa
