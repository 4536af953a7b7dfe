/- The sink of Chain[int] at the end: its channel is closed; the deferred Done. The forwarder of Chain[int] (function 35) as a child of a net: its birth, its end. The forwarder of Chain[int]: the deferred close, the deferred Done. The forwarder of Chain[int]: from a value received to its send. Region 5 draws its order: one fact for each set of operations done. Made by .. -/
import Derived.Test.YtblpmdolclalnaaQ10
set_option maxHeartbeats 16000000
set_option linter.unusedSimpArgs false
set_option linter.unusedVariables false
namespace Go.Proofs.Ytblpmdolclalnaa
open Go.Conc Go.RowKit Go.Conc.Lib Go.ConcR.Gen Go.ConcN.Gen
open Go.ConcR (WgAt KK stA smA rd wr mk DC0)
open Go.ConcN (WgLive)
theorem goes_imp {P : Program} {main : Bool} {R : World → World → Prop} {D : World → World → Array Event → Prop} {Stop Stop' : Goroutine → World → Prop} (hS : ∀ g w, Stop g w → Stop' g w) {n : Nat} {g : Goroutine} {w : World} (h : Goes P main R D Stop n g w) : Goes P main R D Stop' n g w := by
 induction n generalizing g w with
 | zero => exact fun w₁ h₁ => hS _ _ (h w₁ h₁)
 | succ n ih =>
   rcases h with h | ⟨hs, h⟩
   · exact .inl fun w₁ h₁ => hS _ _ (h w₁ h₁)
   · exact .inr ⟨hs, fun w₁ h₁ => goes_mono (h w₁ h₁) fun _ _ _ x => ⟨x.1, ih x.2⟩⟩
theorem quits36 (T : Array Value) : QuitsD Try.prog 2 0 (G { (baseD 36).at ⟨T, []⟩ [] with mode := .returning } [bot]) := by
 refine QuitsD.ctl (g' := G bot []) rfl (fun w => ?_) ?_
 · simp [G, stepG, unwind, doReturn, results, Frame.at, baseD, bot, Try.func36, Try.f36, seen, GStep.after, goexitEntry]
 refine QuitsD.ctl (g' := { G bot [] with status := .finished }) rfl (fun w => ?_) ⟨rfl, rfl⟩
 simp [G, stepG, unwind, bot, goexitEntry, Frame.catches]
 rfl
section
variable {own : Nat → Prop} {Got : Cells} {Rd : Nat → Prop} {Wg e8 e13 c : Nat} {got : List Value} {w : World}
set_option maxRecDepth 100000 in
theorem sink_end {Stop : Goroutine → World → Prop} {cc : Array CommCase} {T : Array Value} (hT : SnkT Wg e8 e13 c T) {z : Value} (hF : SnkF own Got Rd Wg e8 e13 c got w)
   (hS : ∀ g w, AtRel0 Try.prog 66 Wg g w → SnkF own Got Rd Wg e8 e13 c got w → Stop g w) :
   Goo Try.prog false own (KR 66 Wg own Got Rd) (KD Wg own Got Rd) Stop 60 ((sinkAt Wg T).finishComm Try.prog cc (.recv true) 0 z false) w := by
 have hD : ∀ w, KD Wg own Got Rd w w #[] := fun w => Gua.idle w
 obtain ⟨hs, t0, t1, t2, t4⟩ := hT
 obtain ⟨v0, v1, v2, v3, v4, v5, v6, v7, v8, v9, v10, v11, rfl⟩ := array12 T hs
 simp only [List.getElem?_toArray, List.getElem?_cons_zero, List.getElem?_cons_succ, Option.some.injEq] at t0 t1 t2 t4
 subst t0 t1 t2 t4
 clear hs
 simp only [sinkAt, atRecv, lp36, lpOf, body36, Try.f36, Option.getD_some]
 rw [finish_recv]
 refine Goo.of_goes (n := 60) ?_
 walk_nrm
 repeat ((first | ((with_reducible refine g_opG ?_); first | (refine g_unw hD rfl rfl ?_; intro _ h₁; replace hF := SnkF.rely hF h₁; clear h₁; walk_nrm) | (refine Goes.step rfl ?_; intro _ h₁; replace hF := SnkF.rely hF h₁; clear h₁; refine goes_oper_k rfl rfl (by k_ne) fun K hK => ?_; go_simp; refine hK _ _ ⟨g_idle hD fun e he => by have hm := mem_listed he; simp [go_sem, *] at hm, ?_⟩; clear hK K; try w_num)) | ((first | ((with_reducible refine g_c (k' := ?_) true true hD ?_ ?_); rotate_left; focus exact rfl) | with_reducible refine g_r hD rfl ?_); intro _ h₁; replace hF := SnkF.rely hF h₁; clear h₁)))
 (refine Goes.step rfl (fun _ h₁ => ?_); replace hF := SnkF.rely hF h₁; clear h₁)
 rw [stepG_unwind_enter rfl Try.func28 (nm_done Try.link) rfl]
 simp only [goes_go]
 refine ⟨by exact hD _, ?_⟩
 walk_nrmf Try.f28
 have hA := @wg_done Try.link Try.prog Try.wgLib Wg (KR 66 Wg own Got Rd) (KD Wg own Got Rd) (SnkF own Got Rd Wg e8 e13 c got) (fun h r => ⟨h.1.rely r, r.live h.2⟩) hD
 simp only [body_done, doneFn, Option.getD_some] at hA
 exact (goes_imp (fun g w h => hS g w h.1 h.2) (hA rfl (quits36 _) _ ⟨hF, hF.live⟩)).mono (by omega)
end
noncomputable def body35 : Code := Try.f35.body.getD .skip
noncomputable def lp35 : Code := lpOf body35
structure FwdF (own : Nat → Prop) (Got : Cells) (Rd : Nat → Prop) (Wg e12 e11 e10 c d : Nat) (fv : Value) (X : World → Prop) (w : World) : Prop where
 live : WgLive 66 Wg w
 rd : Rd e12 ∧ Rd e11 ∧ Rd e10
 to : w.cell? ⟨e12, 0, none⟩ = some (.chan (some d))
 frm : w.cell? ⟨e11, 0, none⟩ = some (.chan (some c))
 fn : w.cell? ⟨e10, 0, none⟩ = some fv
 x : X w
def Firm (own : Nat → Prop) (Got : Cells) (Rd : Nat → Prop) (Wg : Nat) (X : World → Prop) : Prop := ∀ w w₁, KR 66 Wg own Got Rd w w₁ → X w → X w₁
section
variable {own : Nat → Prop} {Got : Cells} {Rd : Nat → Prop} {Wg e12 e11 e10 c d : Nat} {fv : Value} {X : World → Prop} {w w₁ : World}
theorem FwdF.rely (hX : Firm own Got Rd Wg X) (h : FwdF own Got Rd Wg e12 e11 e10 c d fv X w) (r : KR 66 Wg own Got Rd w w₁) : FwdF own Got Rd Wg e12 e11 e10 c d fv X w₁ :=
 ⟨r.live h.live, h.rd, (r.cell e12 0 (cell_lt h.to) (.inr (.inr h.rd.1))).trans h.to, (r.cell e11 0 (cell_lt h.frm) (.inr (.inr h.rd.2.1))).trans h.frm, (r.cell e10 0 (cell_lt h.fn) (.inr (.inr h.rd.2.2))).trans h.fn, hX _ _ r h.x⟩
def fwdD (Wg d : Nat) : List Deferred := [cdef #[75] 0 #[false] d, dcall 28 #[ptr Wg]]
noncomputable def fwdAt (Wg d : Nat) (T : Array Value) : Goroutine := G ((baseD 35).at ⟨T, fwdD Wg d⟩ (atRecv lp35)) [bot]
structure FwdT (Wg e12 e11 e10 c : Nat) (T : Array Value) : Prop where
 size : T.size = 14
 t0 : T[0]? = some (ptr Wg)
 t1 : T[1]? = some (ptr e12)
 t2 : T[2]? = some (ptr e11)
 t3 : T[3]? = some (ptr e10)
 t6 : T[6]? = some (.chan (some c))
def call35 (Wg e12 e11 e10 : Nat) : Deferred := { target := .fn (.func 35) #[ptr Wg, ptr e12, ptr e11, ptr e10], args := #[] }
theorem born35 (Wg e12 e11 e10 : Nat) (w : World) : stepG Try.prog false (born Try.prog (call35 Wg e12 e11 e10)) w =
   .go (G ((baseD 35).at ⟨#[ptr Wg, ptr e12, ptr e11, ptr e10, undef, undef, undef, undef, undef, undef, undef, undef, undef, undef], []⟩ [.code body35]) [bot]) w #[] := by
 simp [born, call35, stepG, unwind, callDeferred, invoke, callFunc, Try.func35, Try.f35, seen, GStep.after, G, Frame.enter, Frame.at, baseD, bot, body35]
theorem array14 (T : Array Value) (h : T.size = 14) : ∃ v0 v1 v2 v3 v4 v5 v6 v7 v8 v9 v10 v11 v12 v13, T = #[v0, v1, v2, v3, v4, v5, v6, v7, v8, v9, v10, v11, v12, v13] := by
 obtain ⟨l⟩ := T
 match l, h with
 | [v0, v1, v2, v3, v4, v5, v6, v7, v8, v9, v10, v11, v12, v13], _ => exact ⟨v0, v1, v2, v3, v4, v5, v6, v7, v8, v9, v10, v11, v12, v13, rfl⟩
set_option maxRecDepth 100000 in
theorem fwd_born (hX : Firm own Got Rd Wg X) (hF : FwdF own Got Rd Wg e12 e11 e10 c d fv X w) :
   Goes Try.prog false (KR 66 Wg own Got Rd) (KD Wg own Got Rd) (fun g w => ∃ T, FwdT Wg e12 e11 e10 c T ∧ g = fwdAt Wg d T ∧ FwdF own Got Rd Wg e12 e11 e10 c d fv X w) 30 (born Try.prog (call35 Wg e12 e11 e10)) w := by
 have hD : ∀ w, KD Wg own Got Rd w w #[] := fun w => Gua.idle w
 have rl : ∀ {w w₁ : World}, FwdF own Got Rd Wg e12 e11 e10 c d fv X w → KR 66 Wg own Got Rd w w₁ → FwdF own Got Rd Wg e12 e11 e10 c d fv X w₁ := fun h r => h.rely hX r
 refine Goes.step rfl fun w₁ h₁ => ?_
 replace hF := rl hF h₁
 clear h₁
 rw [born35]
 refine ⟨by exact hD _, ?_⟩
 simp only [body35, Try.f35, Option.getD_some]
 repeat (first | (first | ((with_reducible refine g_opG ?_); first | (refine g_unw hD rfl rfl ?_; intro _ h₁; replace hF := rl hF h₁; clear h₁; walk_nrm) | (refine Goes.step rfl ?_; intro _ h₁; replace hF := rl hF h₁; clear h₁; refine goes_oper_k rfl rfl (by k_ne) fun K hK => ?_; go_simp; refine hK _ _ ⟨g_idle hD fun e he => by have hm := mem_listed he; simp [go_sem, *] at hm, ?_⟩; clear hK K; try w_num) | ((with_reducible refine g_opG ?_); refine Goes.step rfl (fun _ h₁ => ?_); replace hF := rl hF h₁; clear h₁; rw [stepG_defer rfl rfl (by k_ne) rfl]; simp only [goes_go]; refine ⟨hD _, ?_⟩; walk_nrm)) | ((first | ((with_reducible refine g_c (k' := ?_) true true hD ?_ ?_); rotate_left; focus exact rfl) | with_reducible refine g_r hD rfl ?_); intro _ h₁; replace hF := rl hF h₁; clear h₁)))
 (refine Goes.step rfl (fun _ h₁ => ?_); replace hF := rl hF h₁; clear h₁)
 refine goes_oper_k rfl rfl (by decide) (fun K hK => ?_)
 have h1 := hF.to
 go_simp
 refine hK _ _ ⟨gua_read fun e he => ?_, ?_⟩
 · have hm := mem_listed he
   simp [go_sem, h1] at hm
   exact ⟨_, hm, cell_lt h1, .inr (.inr (.inr hF.rd.1))⟩
 clear hK K h1
 try walk_nrm
 (refine Goes.step rfl (fun _ h₁ => ?_); replace hF := rl hF h₁; clear h₁)
 rw [stepG_deferC (c := d) rfl rfl (by k_ne) rfl rfl]
 simp only [goes_go]
 refine ⟨by exact hD _, ?_⟩
 walk_nrm
 repeat ((first | ((with_reducible refine g_opG ?_); first | (refine g_unw hD rfl rfl ?_; intro _ h₁; replace hF := rl hF h₁; clear h₁; walk_nrm) | (refine Goes.step rfl ?_; intro _ h₁; replace hF := rl hF h₁; clear h₁; refine goes_oper_k rfl rfl (by k_ne) fun K hK => ?_; go_simp; refine hK _ _ ⟨g_idle hD fun e he => by have hm := mem_listed he; simp [go_sem, *] at hm, ?_⟩; clear hK K; try w_num)) | ((first | ((with_reducible refine g_c (k' := ?_) true true hD ?_ ?_); rotate_left; focus exact rfl) | with_reducible refine g_r hD rfl ?_); intro _ h₁; replace hF := rl hF h₁; clear h₁)))
 (refine Goes.step rfl (fun _ h₁ => ?_); replace hF := rl hF h₁; clear h₁)
 refine goes_oper_k rfl rfl (by decide) (fun K hK => ?_)
 have h1 := hF.frm
 go_simp
 refine hK _ _ ⟨gua_read fun e he => ?_, ?_⟩
 · have hm := mem_listed he
   simp [go_sem, h1] at hm
   exact ⟨_, hm, cell_lt h1, .inr (.inr (.inr hF.rd.2.1))⟩
 clear hK K h1
 try walk_nrm
 repeat ((first | ((with_reducible refine g_opG ?_); first | (refine g_unw hD rfl rfl ?_; intro _ h₁; replace hF := rl hF h₁; clear h₁; walk_nrm) | (refine Goes.step rfl ?_; intro _ h₁; replace hF := rl hF h₁; clear h₁; refine goes_oper_k rfl rfl (by k_ne) fun K hK => ?_; go_simp; refine hK _ _ ⟨g_idle hD fun e he => by have hm := mem_listed he; simp [go_sem, *] at hm, ?_⟩; clear hK K; try w_num)) | ((first | ((with_reducible refine g_c (k' := ?_) true true hD ?_ ?_); rotate_left; focus exact rfl) | with_reducible refine g_r hD rfl ?_); intro _ h₁; replace hF := rl hF h₁; clear h₁)))
 exact Goes.stop fun w₂ h₂ => ⟨#[ptr Wg, ptr e12, ptr e11, ptr e10, undef, .chan (some d), .chan (some c), undef, undef, undef, undef, undef, undef, undef], ⟨rfl, rfl, rfl, rfl, rfl, rfl⟩, by rfl, rl hF h₂⟩
noncomputable def fwdOut (Wg d : Nat) (T : Array Value) : Goroutine := G { (baseD 35).at ⟨T, fwdD Wg d⟩ [] with mode := .returning } [bot]
set_option maxRecDepth 100000 in
theorem fwd_end {Stop : Goroutine → World → Prop} {cc : Array CommCase} {T : Array Value} (hX : Firm own Got Rd Wg X) (hT : FwdT Wg e12 e11 e10 c T) {z : Value} (hF : FwdF own Got Rd Wg e12 e11 e10 c d fv X w)
   (hS : ∀ T w, FwdF own Got Rd Wg e12 e11 e10 c d fv X w → Stop (fwdOut Wg d T) w) :
   Goo Try.prog false own (KR 66 Wg own Got Rd) (KD Wg own Got Rd) Stop 60 ((fwdAt Wg d T).finishComm Try.prog cc (.recv true) 0 z false) w := by
 have hD : ∀ w, KD Wg own Got Rd w w #[] := fun w => Gua.idle w
 have rl : ∀ {w w₁ : World}, FwdF own Got Rd Wg e12 e11 e10 c d fv X w → KR 66 Wg own Got Rd w w₁ → FwdF own Got Rd Wg e12 e11 e10 c d fv X w₁ := fun h r => h.rely hX r
 obtain ⟨hs, t0, t1, t2, t3, t6⟩ := hT
 obtain ⟨v0, v1, v2, v3, v4, v5, v6, v7, v8, v9, v10, v11, v12, v13, rfl⟩ := array14 T hs
 simp only [List.getElem?_toArray, List.getElem?_cons_zero, List.getElem?_cons_succ, Option.some.injEq] at t0 t1 t2 t3 t6
 subst t0 t1 t2 t3 t6
 clear hs
 simp only [fwdAt, atRecv, lp35, lpOf, body35, Try.f35, Option.getD_some]
 rw [finish_recv]
 refine Goo.of_goes (n := 60) ?_
 walk_nrm
 repeat ((first | ((with_reducible refine g_opG ?_); first | (refine g_unw hD rfl rfl ?_; intro _ h₁; replace hF := rl hF h₁; clear h₁; walk_nrm) | (refine Goes.step rfl ?_; intro _ h₁; replace hF := rl hF h₁; clear h₁; refine goes_oper_k rfl rfl (by k_ne) fun K hK => ?_; go_simp; refine hK _ _ ⟨g_idle hD fun e he => by have hm := mem_listed he; simp [go_sem, *] at hm, ?_⟩; clear hK K; try w_num)) | ((first | ((with_reducible refine g_c (k' := ?_) true true hD ?_ ?_); rotate_left; focus exact rfl) | with_reducible refine g_r hD rfl ?_); intro _ h₁; replace hF := rl hF h₁; clear h₁)))
 exact Goes.stop fun w₂ h₂ => hS _ _ (rl hF h₂)
end
theorem loud35 : (Try.prog.funcs[(baseD 35).fn]?).any (·.norace) = false := by kernel_rfl
theorem quits35 (T : Array Value) : QuitsD Try.prog 2 0 (G { (baseD 35).at ⟨T, []⟩ [] with mode := .returning } [bot]) := by
 refine QuitsD.ctl (g' := G bot []) rfl (fun w => ?_) ?_
 · simp [G, stepG, unwind, doReturn, results, Frame.at, baseD, bot, Try.func35, Try.f35, seen, GStep.after, goexitEntry]
 refine QuitsD.ctl (g' := { G bot [] with status := .finished }) rfl (fun w => ?_) ⟨rfl, rfl⟩
 simp [G, stepG, unwind, bot, goexitEntry, Frame.catches]
 rfl
section
variable {own : Nat → Prop} {Got : Cells} {Rd : Nat → Prop} {Wg e12 e11 e10 c d : Nat} {fv : Value} {X : World → Prop} {w w₁ : World}
noncomputable def fwdLast (Wg : Nat) (T : Array Value) : Goroutine := G { (baseD 35).at ⟨T, [dcall 28 #[ptr Wg]]⟩ [] with mode := .returning } [bot]
theorem fwd_shut {T : Array Value} {k : Nat} (hc : w.heap[d]? = some (.chan 0 #[] false k k false)) :
   stepG Try.prog false (fwdOut Wg d T) w = .go (fwdLast Wg T) (w.setChan d 0 #[] true k k false) (closeEvents d) := stepG_unwind_close rfl hc loud35
theorem fwd_wakes (T : Array Value) : mayWake Try.prog (fwdOut Wg d T) = true := rfl
theorem cell_chan {k cap s r : Nat} {buf : Array Value} {cl tm : Bool} {b o : Nat} {v : Value} (hc : w.heap[d]? = some (.chan cap buf cl s r tm)) (h : w.cell? ⟨b, o, none⟩ = some v) : (w.setChan d 0 #[] true k k false).cell? ⟨b, o, none⟩ = some v := by
 have hb : b ≠ d := fun e => by
   subst e
   simp [World.cell?, hc] at h
 rw [cell?_eq (setChan_ne hb)]; exact h
theorem FwdF.chan {k : Nat} (hXc : ∀ w k, w.heap[d]? = some (.chan 0 #[] false k k false) → X w → X (w.setChan d 0 #[] true k k false)) (hc : w.heap[d]? = some (.chan 0 #[] false k k false)) (h : FwdF own Got Rd Wg e12 e11 e10 c d fv X w) : FwdF own Got Rd Wg e12 e11 e10 c d fv X (w.setChan d 0 #[] true k k false) := by
 refine ⟨?_, h.rd, cell_chan hc h.to, cell_chan hc h.frm, cell_chan hc h.fn, hXc w k hc h.x⟩
 obtain ⟨st, sm, hl⟩ := h.live
 have hl' : w.heap[Wg]? = some (Go.ConcR.wgBlock 66 st sm) := hl
 exact ⟨st, sm, hl.of_block (setChan_ne fun e => by rw [e, hc] at hl'; cases hl')⟩
set_option maxRecDepth 100000 in
theorem fwd_done {T : Array Value} (hX : Firm own Got Rd Wg X) (hF : FwdF own Got Rd Wg e12 e11 e10 c d fv X w) :
   Goes Try.prog false (KR 66 Wg own Got Rd) (KD Wg own Got Rd) (fun g w => AtRel0 Try.prog 66 Wg g w ∧ FwdF own Got Rd Wg e12 e11 e10 c d fv X w) 30 (fwdLast Wg T) w := by
 have hD : ∀ w, KD Wg own Got Rd w w #[] := fun w => Gua.idle w
 have rl : ∀ {w w₁ : World}, FwdF own Got Rd Wg e12 e11 e10 c d fv X w → KR 66 Wg own Got Rd w w₁ → FwdF own Got Rd Wg e12 e11 e10 c d fv X w₁ := fun h r => h.rely hX r
 unfold fwdLast
 (refine Goes.step rfl (fun _ h₁ => ?_); replace hF := rl hF h₁; clear h₁)
 rw [stepG_unwind_enter rfl Try.func28 (nm_done Try.link) rfl]
 simp only [goes_go]
 refine ⟨by exact hD _, ?_⟩
 walk_nrmf Try.f28
 have hA := @wg_done Try.link Try.prog Try.wgLib Wg (KR 66 Wg own Got Rd) (KD Wg own Got Rd) (FwdF own Got Rd Wg e12 e11 e10 c d fv X) (fun h r => ⟨h.1.rely hX r, r.live h.2⟩) hD
 simp only [body_done, doneFn, Option.getD_some] at hA
 exact (hA rfl (quits35 _) _ ⟨hF, hF.live⟩).mono (by omega)
end
def heldV (v : Value) : Prop := (∃ c, v = .chan c) ∨ ∃ f fr cp, v = .func f fr cp
def Calls (own : Nat → Prop) (Got : Cells) (Rd : Nat → Prop) (Wg : Nat) (fv : Value) (n r : Int) (X X' : World → Prop) (nf : Nat) : Prop :=
 ∀ (b : Frame) (a : Act) (ops : Array Oper) (i : Nat) (rest : List Nat) (k : List Item) (cs : List Frame) (o : Oper) (y z : Operand) (ats : Array TypeId) (w : World), ops[i]? = some o → Region.wanted o (yielded ops a.tmps) = true → b.kind ≠ .early →
   o.op = .call { callee := .value y, args := #[z], argTypes := ats } → a.eval y = fv → a.eval z = .int .i64 n → WgLive 66 Wg w → X w →
   Goo Try.prog false own (KR 66 Wg own Got Rd) (KD Wg own Got Rd) (fun g w' => g = G (b.at (a.put o.dst (.int .i64 r)) (.inRegion ops rest :: k)) cs ∧ WgLive 66 Wg w' ∧ X' w' ∧ ∀ e v, Rd e → heldV v → w.cell? ⟨e, 0, none⟩ = some v → w'.cell? ⟨e, 0, none⟩ = some v) nf (G (b.at a (.inRegion ops (i :: rest) :: k)) cs) w
noncomputable def ops35 : Array Oper := match lp35 with | .seq _ (.seq _ (.block _ (.seq _ (.region _ R _)))) => R | _ => #[]
noncomputable def k35 : List Item := match lp35 with | .seq _ (.seq _ (.block id _)) => [.inBlock id, .inLoop lp35, .inBlock 0] | _ => []
noncomputable def fwdSend (Wg d : Nat) (T : Array Value) : Goroutine := G ((baseD 35).at ⟨T, fwdD Wg d⟩ (.inRegion ops35 [4] :: k35)) [bot]
structure FwdS (Wg e12 e11 e10 c d : Nat) (r : Int) (T : Array Value) : Prop where
 size : T.size = 14
 t0 : T[0]? = some (ptr Wg)
 t1 : T[1]? = some (ptr e12)
 t2 : T[2]? = some (ptr e11)
 t3 : T[3]? = some (ptr e10)
 t6 : T[6]? = some (.chan (some c))
 t10 : T[10]? = some (.chan (some d))
 t13 : T[13]? = some (.int .i64 r)
section
variable {own : Nat → Prop} {Got : Cells} {Rd : Nat → Prop} {Wg e12 e11 e10 c d : Nat} {fv : Value} {X X' : World → Prop} {w : World}
set_option maxRecDepth 100000 in
theorem fwd_draw {Stop : Goroutine → World → Prop} {n r : Int} {nf : Nat} {v5 v10 v11 v12 v13 : Value} (hX : Firm own Got Rd Wg X) (hX' : Firm own Got Rd Wg X') (hC : Calls own Got Rd Wg fv n r X X' nf) (hfv : heldV fv)
   (hS : ∀ T w, FwdS Wg e12 e11 e10 c d r T → FwdF own Got Rd Wg e12 e11 e10 c d fv X' w → Stop (fwdSend Wg d T) w) (t : Nat) (hF : FwdF own Got Rd Wg e12 e11 e10 c d fv X w) :
   Goo Try.prog false own (KR 66 Wg own Got Rd) (KD Wg own Got Rd) Stop (60 + nf) (G ((baseD 35).at ⟨#[ptr Wg, ptr e12, ptr e11, ptr e10, .int .i64 n, v5, .chan (some c), .tuple #[.int .i64 n, .bool true], .bool true, .int .i64 n, v10, v11, v12, v13], fwdD Wg d⟩ (.inRegion ops35 (lin ops35 5 t #[false, false, false, false, false]) :: k35)) [bot]) w := by
 have rl : ∀ {w w₁ : World}, FwdF own Got Rd Wg e12 e11 e10 c d fv X w → KR 66 Wg own Got Rd w w₁ → FwdF own Got Rd Wg e12 e11 e10 c d fv X w₁ := fun h r => h.rely hX r
 have rl' : ∀ {w w₁ : World}, FwdF own Got Rd Wg e12 e11 e10 c d fv X' w → KR 66 Wg own Got Rd w w₁ → FwdF own Got Rd Wg e12 e11 e10 c d fv X' w₁ := fun h r => h.rely hX' r
 have s0123 : ∀ t w, FwdF own Got Rd Wg e12 e11 e10 c d fv X' w → Goo Try.prog false own (KR 66 Wg own Got Rd) (KD Wg own Got Rd) Stop (28) (G ((baseD 35).at ⟨#[ptr Wg, ptr e12, ptr e11, ptr e10, .int .i64 n, v5, .chan (some c), .tuple #[.int .i64 n, .bool true], .bool true, .int .i64 n, .chan (some d), fv, .int .i64 n, .int .i64 r], fwdD Wg d⟩ (.inRegion ops35 (lin ops35 1 t #[true, true, true, true, false]) :: k35)) [bot]) w := by
   intro t w hF
   refine goo_lin (rs := [4]) (by first | rfl | kernel_rfl) (by simp) (fun i hi t => ?_) t
   simp only [List.mem_cons, List.not_mem_nil, or_false] at hi
   rcases hi with rfl
   · rw [lin_zero]
     exact Goo.stop fun w₁ h₁ => hS _ _ ⟨rfl, rfl, rfl, rfl, rfl, rfl, rfl, rfl⟩ (rl' hF h₁)
 have s012 : ∀ t w, FwdF own Got Rd Wg e12 e11 e10 c d fv X w → Goo Try.prog false own (KR 66 Wg own Got Rd) (KD Wg own Got Rd) Stop (36 + nf) (G ((baseD 35).at ⟨#[ptr Wg, ptr e12, ptr e11, ptr e10, .int .i64 n, v5, .chan (some c), .tuple #[.int .i64 n, .bool true], .bool true, .int .i64 n, .chan (some d), fv, .int .i64 n, v13], fwdD Wg d⟩ (.inRegion ops35 (lin ops35 2 t #[true, true, true, false, false]) :: k35)) [bot]) w := by
   intro t w hF
   refine goo_lin (rs := [3]) (by first | rfl | kernel_rfl) (by simp) (fun i hi t => ?_) t
   simp only [List.mem_cons, List.not_mem_nil, or_false] at hi
   rcases hi with rfl
   · refine Goo.mono (Goo.bind KR.refl' (m := (28)) (fun g w' h => ?_) (hC _ _ _ _ _ _ _ _ _ _ _ _ rfl rfl (by decide) rfl rfl rfl hF.live hF.x)) (by omega)
     obtain ⟨rfl, hl, hx, hr⟩ := h
     exact s0123 _ _ ⟨hl, hF.rd, hr _ _ hF.rd.1 (.inl ⟨_, rfl⟩) hF.to, hr _ _ hF.rd.2.1 (.inl ⟨_, rfl⟩) hF.frm, hr _ _ hF.rd.2.2 hfv hF.fn, hx⟩
 have s123 : ∀ t w, FwdF own Got Rd Wg e12 e11 e10 c d fv X' w → Goo Try.prog false own (KR 66 Wg own Got Rd) (KD Wg own Got Rd) Stop (36) (G ((baseD 35).at ⟨#[ptr Wg, ptr e12, ptr e11, ptr e10, .int .i64 n, v5, .chan (some c), .tuple #[.int .i64 n, .bool true], .bool true, .int .i64 n, v10, fv, .int .i64 n, .int .i64 r], fwdD Wg d⟩ (.inRegion ops35 (lin ops35 2 t #[false, true, true, true, false]) :: k35)) [bot]) w := by
   intro t w hF
   refine goo_lin (rs := [0]) (by first | rfl | kernel_rfl) (by simp) (fun i hi t => ?_) t
   simp only [List.mem_cons, List.not_mem_nil, or_false] at hi
   rcases hi with rfl
   · refine Goo.mono (Goo.step (n := (28)) rfl fun w₁ h₁ => ?_) (by omega)
     replace hF := rl' hF h₁
     refine goes_oper_k (o := { dst := some 10, op := .load 75 (.tmp 1), type := 75, pos := "stage.go:67", after := #[], guard := none }) rfl rfl (by decide) (fun K hK => ?_)
     have h1 := hF.to
     go_simp
     refine hK _ _ ⟨gua_read fun e he => ?_, fun _ => ?_⟩
     · have hm := mem_listed he
       simp [go_sem, h1] at hm
       exact ⟨_, hm, cell_lt h1, .inr (.inr (.inr hF.rd.1))⟩
     exact s0123 _ _ hF
 have s01 : ∀ t w, FwdF own Got Rd Wg e12 e11 e10 c d fv X w → Goo Try.prog false own (KR 66 Wg own Got Rd) (KD Wg own Got Rd) Stop (44 + nf) (G ((baseD 35).at ⟨#[ptr Wg, ptr e12, ptr e11, ptr e10, .int .i64 n, v5, .chan (some c), .tuple #[.int .i64 n, .bool true], .bool true, .int .i64 n, .chan (some d), fv, v12, v13], fwdD Wg d⟩ (.inRegion ops35 (lin ops35 3 t #[true, true, false, false, false]) :: k35)) [bot]) w := by
   intro t w hF
   refine goo_lin (rs := [2]) (by first | rfl | kernel_rfl) (by simp) (fun i hi t => ?_) t
   simp only [List.mem_cons, List.not_mem_nil, or_false] at hi
   rcases hi with rfl
   · refine Goo.mono (Goo.step (n := (36 + nf)) rfl fun w₁ h₁ => ?_) (by omega)
     replace hF := rl hF h₁
     refine goes_oper_k (o := { dst := some 12, op := .move (.tmp 4), type := 3, pos := "stage.go:67", after := #[], guard := none }) rfl rfl (by decide) (fun K hK => ?_)
     go_simp
     refine hK _ _ ⟨gua_read fun e he => ?_, fun _ => ?_⟩
     · have hm := mem_listed he
       simp [go_sem] at hm
     exact s012 _ _ hF
 have s02 : ∀ t w, FwdF own Got Rd Wg e12 e11 e10 c d fv X w → Goo Try.prog false own (KR 66 Wg own Got Rd) (KD Wg own Got Rd) Stop (44 + nf) (G ((baseD 35).at ⟨#[ptr Wg, ptr e12, ptr e11, ptr e10, .int .i64 n, v5, .chan (some c), .tuple #[.int .i64 n, .bool true], .bool true, .int .i64 n, .chan (some d), v11, .int .i64 n, v13], fwdD Wg d⟩ (.inRegion ops35 (lin ops35 3 t #[true, false, true, false, false]) :: k35)) [bot]) w := by
   intro t w hF
   refine goo_lin (rs := [1]) (by first | rfl | kernel_rfl) (by simp) (fun i hi t => ?_) t
   simp only [List.mem_cons, List.not_mem_nil, or_false] at hi
   rcases hi with rfl
   · refine Goo.mono (Goo.step (n := (36 + nf)) rfl fun w₁ h₁ => ?_) (by omega)
     replace hF := rl hF h₁
     refine goes_oper_k (o := { dst := some 11, op := .load 28 (.tmp 3), type := 28, pos := "stage.go:67", after := #[], guard := none }) rfl rfl (by decide) (fun K hK => ?_)
     have h1 := hF.fn
     go_simp
     refine hK _ _ ⟨gua_read fun e he => ?_, fun _ => ?_⟩
     · have hm := mem_listed he
       simp [go_sem, h1] at hm
       exact ⟨_, hm, cell_lt h1, .inr (.inr (.inr hF.rd.2.2))⟩
     exact s012 _ _ hF
 have s12 : ∀ t w, FwdF own Got Rd Wg e12 e11 e10 c d fv X w → Goo Try.prog false own (KR 66 Wg own Got Rd) (KD Wg own Got Rd) Stop (44 + nf) (G ((baseD 35).at ⟨#[ptr Wg, ptr e12, ptr e11, ptr e10, .int .i64 n, v5, .chan (some c), .tuple #[.int .i64 n, .bool true], .bool true, .int .i64 n, v10, fv, .int .i64 n, v13], fwdD Wg d⟩ (.inRegion ops35 (lin ops35 3 t #[false, true, true, false, false]) :: k35)) [bot]) w := by
   intro t w hF
   refine goo_lin (rs := [0, 3]) (by first | rfl | kernel_rfl) (by simp) (fun i hi t => ?_) t
   simp only [List.mem_cons, List.not_mem_nil, or_false] at hi
   rcases hi with rfl | rfl
   · refine Goo.mono (Goo.step (n := (36 + nf)) rfl fun w₁ h₁ => ?_) (by omega)
     replace hF := rl hF h₁
     refine goes_oper_k (o := { dst := some 10, op := .load 75 (.tmp 1), type := 75, pos := "stage.go:67", after := #[], guard := none }) rfl rfl (by decide) (fun K hK => ?_)
     have h1 := hF.to
     go_simp
     refine hK _ _ ⟨gua_read fun e he => ?_, fun _ => ?_⟩
     · have hm := mem_listed he
       simp [go_sem, h1] at hm
       exact ⟨_, hm, cell_lt h1, .inr (.inr (.inr hF.rd.1))⟩
     exact s012 _ _ hF
   · refine Goo.mono (Goo.bind KR.refl' (m := (36)) (fun g w' h => ?_) (hC _ _ _ _ _ _ _ _ _ _ _ _ rfl rfl (by decide) rfl rfl rfl hF.live hF.x)) (by omega)
     obtain ⟨rfl, hl, hx, hr⟩ := h
     exact s123 _ _ ⟨hl, hF.rd, hr _ _ hF.rd.1 (.inl ⟨_, rfl⟩) hF.to, hr _ _ hF.rd.2.1 (.inl ⟨_, rfl⟩) hF.frm, hr _ _ hF.rd.2.2 hfv hF.fn, hx⟩
 have s0 : ∀ t w, FwdF own Got Rd Wg e12 e11 e10 c d fv X w → Goo Try.prog false own (KR 66 Wg own Got Rd) (KD Wg own Got Rd) Stop (52 + nf) (G ((baseD 35).at ⟨#[ptr Wg, ptr e12, ptr e11, ptr e10, .int .i64 n, v5, .chan (some c), .tuple #[.int .i64 n, .bool true], .bool true, .int .i64 n, .chan (some d), v11, v12, v13], fwdD Wg d⟩ (.inRegion ops35 (lin ops35 4 t #[true, false, false, false, false]) :: k35)) [bot]) w := by
   intro t w hF
   refine goo_lin (rs := [1, 2]) (by first | rfl | kernel_rfl) (by simp) (fun i hi t => ?_) t
   simp only [List.mem_cons, List.not_mem_nil, or_false] at hi
   rcases hi with rfl | rfl
   · refine Goo.mono (Goo.step (n := (44 + nf)) rfl fun w₁ h₁ => ?_) (by omega)
     replace hF := rl hF h₁
     refine goes_oper_k (o := { dst := some 11, op := .load 28 (.tmp 3), type := 28, pos := "stage.go:67", after := #[], guard := none }) rfl rfl (by decide) (fun K hK => ?_)
     have h1 := hF.fn
     go_simp
     refine hK _ _ ⟨gua_read fun e he => ?_, fun _ => ?_⟩
     · have hm := mem_listed he
       simp [go_sem, h1] at hm
       exact ⟨_, hm, cell_lt h1, .inr (.inr (.inr hF.rd.2.2))⟩
     exact s01 _ _ hF
   · refine Goo.mono (Goo.step (n := (44 + nf)) rfl fun w₁ h₁ => ?_) (by omega)
     replace hF := rl hF h₁
     refine goes_oper_k (o := { dst := some 12, op := .move (.tmp 4), type := 3, pos := "stage.go:67", after := #[], guard := none }) rfl rfl (by decide) (fun K hK => ?_)
     go_simp
     refine hK _ _ ⟨gua_read fun e he => ?_, fun _ => ?_⟩
     · have hm := mem_listed he
       simp [go_sem] at hm
     exact s02 _ _ hF
 have s1 : ∀ t w, FwdF own Got Rd Wg e12 e11 e10 c d fv X w → Goo Try.prog false own (KR 66 Wg own Got Rd) (KD Wg own Got Rd) Stop (52 + nf) (G ((baseD 35).at ⟨#[ptr Wg, ptr e12, ptr e11, ptr e10, .int .i64 n, v5, .chan (some c), .tuple #[.int .i64 n, .bool true], .bool true, .int .i64 n, v10, fv, v12, v13], fwdD Wg d⟩ (.inRegion ops35 (lin ops35 4 t #[false, true, false, false, false]) :: k35)) [bot]) w := by
   intro t w hF
   refine goo_lin (rs := [0, 2]) (by first | rfl | kernel_rfl) (by simp) (fun i hi t => ?_) t
   simp only [List.mem_cons, List.not_mem_nil, or_false] at hi
   rcases hi with rfl | rfl
   · refine Goo.mono (Goo.step (n := (44 + nf)) rfl fun w₁ h₁ => ?_) (by omega)
     replace hF := rl hF h₁
     refine goes_oper_k (o := { dst := some 10, op := .load 75 (.tmp 1), type := 75, pos := "stage.go:67", after := #[], guard := none }) rfl rfl (by decide) (fun K hK => ?_)
     have h1 := hF.to
     go_simp
     refine hK _ _ ⟨gua_read fun e he => ?_, fun _ => ?_⟩
     · have hm := mem_listed he
       simp [go_sem, h1] at hm
       exact ⟨_, hm, cell_lt h1, .inr (.inr (.inr hF.rd.1))⟩
     exact s01 _ _ hF
   · refine Goo.mono (Goo.step (n := (44 + nf)) rfl fun w₁ h₁ => ?_) (by omega)
     replace hF := rl hF h₁
     refine goes_oper_k (o := { dst := some 12, op := .move (.tmp 4), type := 3, pos := "stage.go:67", after := #[], guard := none }) rfl rfl (by decide) (fun K hK => ?_)
     go_simp
     refine hK _ _ ⟨gua_read fun e he => ?_, fun _ => ?_⟩
     · have hm := mem_listed he
       simp [go_sem] at hm
     exact s12 _ _ hF
 have s2 : ∀ t w, FwdF own Got Rd Wg e12 e11 e10 c d fv X w → Goo Try.prog false own (KR 66 Wg own Got Rd) (KD Wg own Got Rd) Stop (52 + nf) (G ((baseD 35).at ⟨#[ptr Wg, ptr e12, ptr e11, ptr e10, .int .i64 n, v5, .chan (some c), .tuple #[.int .i64 n, .bool true], .bool true, .int .i64 n, v10, v11, .int .i64 n, v13], fwdD Wg d⟩ (.inRegion ops35 (lin ops35 4 t #[false, false, true, false, false]) :: k35)) [bot]) w := by
   intro t w hF
   refine goo_lin (rs := [0, 1]) (by first | rfl | kernel_rfl) (by simp) (fun i hi t => ?_) t
   simp only [List.mem_cons, List.not_mem_nil, or_false] at hi
   rcases hi with rfl | rfl
   · refine Goo.mono (Goo.step (n := (44 + nf)) rfl fun w₁ h₁ => ?_) (by omega)
     replace hF := rl hF h₁
     refine goes_oper_k (o := { dst := some 10, op := .load 75 (.tmp 1), type := 75, pos := "stage.go:67", after := #[], guard := none }) rfl rfl (by decide) (fun K hK => ?_)
     have h1 := hF.to
     go_simp
     refine hK _ _ ⟨gua_read fun e he => ?_, fun _ => ?_⟩
     · have hm := mem_listed he
       simp [go_sem, h1] at hm
       exact ⟨_, hm, cell_lt h1, .inr (.inr (.inr hF.rd.1))⟩
     exact s02 _ _ hF
   · refine Goo.mono (Goo.step (n := (44 + nf)) rfl fun w₁ h₁ => ?_) (by omega)
     replace hF := rl hF h₁
     refine goes_oper_k (o := { dst := some 11, op := .load 28 (.tmp 3), type := 28, pos := "stage.go:67", after := #[], guard := none }) rfl rfl (by decide) (fun K hK => ?_)
     have h1 := hF.fn
     go_simp
     refine hK _ _ ⟨gua_read fun e he => ?_, fun _ => ?_⟩
     · have hm := mem_listed he
       simp [go_sem, h1] at hm
       exact ⟨_, hm, cell_lt h1, .inr (.inr (.inr hF.rd.2.2))⟩
     exact s12 _ _ hF
 have s : ∀ t w, FwdF own Got Rd Wg e12 e11 e10 c d fv X w → Goo Try.prog false own (KR 66 Wg own Got Rd) (KD Wg own Got Rd) Stop (60 + nf) (G ((baseD 35).at ⟨#[ptr Wg, ptr e12, ptr e11, ptr e10, .int .i64 n, v5, .chan (some c), .tuple #[.int .i64 n, .bool true], .bool true, .int .i64 n, v10, v11, v12, v13], fwdD Wg d⟩ (.inRegion ops35 (lin ops35 5 t #[false, false, false, false, false]) :: k35)) [bot]) w := by
   intro t w hF
   refine goo_lin (rs := [0, 1, 2]) (by first | rfl | kernel_rfl) (by simp) (fun i hi t => ?_) t
   simp only [List.mem_cons, List.not_mem_nil, or_false] at hi
   rcases hi with rfl | rfl | rfl
   · refine Goo.mono (Goo.step (n := (52 + nf)) rfl fun w₁ h₁ => ?_) (by omega)
     replace hF := rl hF h₁
     refine goes_oper_k (o := { dst := some 10, op := .load 75 (.tmp 1), type := 75, pos := "stage.go:67", after := #[], guard := none }) rfl rfl (by decide) (fun K hK => ?_)
     have h1 := hF.to
     go_simp
     refine hK _ _ ⟨gua_read fun e he => ?_, fun _ => ?_⟩
     · have hm := mem_listed he
       simp [go_sem, h1] at hm
       exact ⟨_, hm, cell_lt h1, .inr (.inr (.inr hF.rd.1))⟩
     exact s0 _ _ hF
   · refine Goo.mono (Goo.step (n := (52 + nf)) rfl fun w₁ h₁ => ?_) (by omega)
     replace hF := rl hF h₁
     refine goes_oper_k (o := { dst := some 11, op := .load 28 (.tmp 3), type := 28, pos := "stage.go:67", after := #[], guard := none }) rfl rfl (by decide) (fun K hK => ?_)
     have h1 := hF.fn
     go_simp
     refine hK _ _ ⟨gua_read fun e he => ?_, fun _ => ?_⟩
     · have hm := mem_listed he
       simp [go_sem, h1] at hm
       exact ⟨_, hm, cell_lt h1, .inr (.inr (.inr hF.rd.2.2))⟩
     exact s1 _ _ hF
   · refine Goo.mono (Goo.step (n := (52 + nf)) rfl fun w₁ h₁ => ?_) (by omega)
     replace hF := rl hF h₁
     refine goes_oper_k (o := { dst := some 12, op := .move (.tmp 4), type := 3, pos := "stage.go:67", after := #[], guard := none }) rfl rfl (by decide) (fun K hK => ?_)
     go_simp
     refine hK _ _ ⟨gua_read fun e he => ?_, fun _ => ?_⟩
     · have hm := mem_listed he
       simp [go_sem] at hm
     exact s2 _ _ hF
 exact (s t w hF).mono (by omega)
end
section
variable {own : Nat → Prop} {Got : Cells} {Rd : Nat → Prop} {Wg e12 e11 e10 c d : Nat} {fv : Value} {X X' : World → Prop} {w : World}
theorem draw_rely {w w₁ : World} (h : KR 66 Wg own Got Rd w w₁) : KR 66 Wg own Got Rd w { w₁ with drawn := w₁.drawn + 1 } := Rel.trans h (Rel.at w₁ (w₁.drawn + 1))
set_option maxRecDepth 100000 in
theorem fwd_got {Stop : Goroutine → World → Prop} {cc : Array CommCase} {T : Array Value} {n r : Int} {nf : Nat} (hX : Firm own Got Rd Wg X) (hX' : Firm own Got Rd Wg X') (hC : Calls own Got Rd Wg fv n r X X' nf) (hfv : heldV fv)
   (hT : FwdT Wg e12 e11 e10 c T) (hF : FwdF own Got Rd Wg e12 e11 e10 c d fv X w)
   (hS : ∀ T w, FwdS Wg e12 e11 e10 c d r T → FwdF own Got Rd Wg e12 e11 e10 c d fv X' w → Stop (fwdSend Wg d T) w) :
   Goo Try.prog false own (KR 66 Wg own Got Rd) (KD Wg own Got Rd) Stop (100 + nf) ((fwdAt Wg d T).finishComm Try.prog cc (.recv true) 0 (.int .i64 n) true) w := by
 have hD : ∀ w, KD Wg own Got Rd w w #[] := fun w => Gua.idle w
 have rl : ∀ {w w₁ : World}, FwdF own Got Rd Wg e12 e11 e10 c d fv X w → KR 66 Wg own Got Rd w w₁ → FwdF own Got Rd Wg e12 e11 e10 c d fv X w₁ := fun h r => h.rely hX r
 obtain ⟨hs, t0, t1, t2, t3, t6⟩ := hT
 obtain ⟨v0, v1, v2, v3, v4, v5, v6, v7, v8, v9, v10, v11, v12, v13, rfl⟩ := array14 T hs
 simp only [List.getElem?_toArray, List.getElem?_cons_zero, List.getElem?_cons_succ, Option.some.injEq] at t0 t1 t2 t3 t6
 subst t0 t1 t2 t3 t6
 clear hs
 simp only [fwdAt, atRecv, lp35, lpOf, body35, Try.f35, Option.getD_some]
 rw [finish_recv]
 refine Goo.mono (Goo.on (KR.refl') (n := 30) (m := 61 + nf) ?_) (by omega)
 walk_nrm
 repeat ((first | ((with_reducible refine g_opG ?_); first | (refine g_unw hD rfl rfl ?_; intro _ h₁; replace hF := rl hF h₁; clear h₁; walk_nrm) | (refine Goes.step rfl ?_; intro _ h₁; replace hF := rl hF h₁; clear h₁; refine goes_oper_k rfl rfl (by k_ne) fun K hK => ?_; go_simp; refine hK _ _ ⟨g_idle hD fun e he => by have hm := mem_listed he; simp [go_sem, *] at hm, ?_⟩; clear hK K; try w_num)) | ((first | ((with_reducible refine g_c (k' := ?_) true true hD ?_ ?_); rotate_left; focus exact rfl) | with_reducible refine g_r hD rfl ?_); intro _ h₁; replace hF := rl hF h₁; clear h₁)))
 refine Goes.stop fun w₁ h₁ => ?_
 replace hF := rl hF h₁
 clear h₁
 refine Goo.mono (goo_draw (n := 60 + nf) (by kernel_rfl) (fun w => Gua.draw w) fun w₂ h₂ t => ?_) (by omega)
 exact fwd_draw hX hX' hC hfv hS t (rl hF (draw_rely h₂))
set_option maxRecDepth 100000 in
theorem fwd_sent {Stop : Goroutine → World → Prop} {cc : Array CommCase} {T : Array Value} {r : Int} (hX : Firm own Got Rd Wg X) (hT : FwdS Wg e12 e11 e10 c d r T) (hF : FwdF own Got Rd Wg e12 e11 e10 c d fv X w)
   (hS : ∀ T w, FwdT Wg e12 e11 e10 c T → FwdF own Got Rd Wg e12 e11 e10 c d fv X w → Stop (fwdAt Wg d T) w) :
   Goo Try.prog false own (KR 66 Wg own Got Rd) (KD Wg own Got Rd) Stop 30 ((fwdSend Wg d T).finishComm Try.prog cc .send 0 undef false) w := by
 have hD : ∀ w, KD Wg own Got Rd w w #[] := fun w => Gua.idle w
 have rl : ∀ {w w₁ : World}, FwdF own Got Rd Wg e12 e11 e10 c d fv X w → KR 66 Wg own Got Rd w w₁ → FwdF own Got Rd Wg e12 e11 e10 c d fv X w₁ := fun h r => h.rely hX r
 obtain ⟨hs, t0, t1, t2, t3, t6, _, _⟩ := hT
 obtain ⟨v0, v1, v2, v3, v4, v5, v6, v7, v8, v9, v10, v11, v12, v13, rfl⟩ := array14 T hs
 simp only [List.getElem?_toArray, List.getElem?_cons_zero, List.getElem?_cons_succ, Option.some.injEq] at t0 t1 t2 t3 t6
 subst t0 t1 t2 t3 t6
 clear hs
 simp only [fwdSend, ops35, k35, lp35, lpOf, body35, Try.f35, Option.getD_some]
 rw [finish_send]
 refine Goo.of_goes (n := 30) ?_
 walk_nrm
 repeat ((first | ((with_reducible refine g_opG ?_); first | (refine g_unw hD rfl rfl ?_; intro _ h₁; replace hF := rl hF h₁; clear h₁; walk_nrm) | (refine Goes.step rfl ?_; intro _ h₁; replace hF := rl hF h₁; clear h₁; refine goes_oper_k rfl rfl (by k_ne) fun K hK => ?_; go_simp; refine hK _ _ ⟨g_idle hD fun e he => by have hm := mem_listed he; simp [go_sem, *] at hm, ?_⟩; clear hK K; try w_num)) | ((first | ((with_reducible refine g_c (k' := ?_) true true hD ?_ ?_); rotate_left; focus exact rfl) | with_reducible refine g_r hD rfl ?_); intro _ h₁; replace hF := rl hF h₁; clear h₁)))
 exact Goes.stop fun w₂ h₂ => hS _ _ ⟨rfl, rfl, rfl, rfl, rfl, rfl⟩ (rl hF h₂)
end
@[go_sem] theorem ev_neg (P : Program) (w : World) (es : Array Event) (n : Int) : (Op.unary UnOp.neg (.int .i64 n)).events P w es = es := rfl
def applyP (x n : Int) : Int :=
 if x.tmod 5 = 0 then IntKind.i64.wrap (n + 1) else if x.tmod 5 = 1 then IntKind.i64.wrap (2 * n) else if x.tmod 5 = 2 then IntKind.i64.wrap (-n)
 else if x.tmod 5 = 3 then IntKind.i64.wrap ((IntKind.i64.wrap (n * n)).tmod 1000 + 3) else bits .xor .i64 n 5
def fnV (kb : Nat) : Value := .func (.func 30) #[] #[ptr kb]
def BoxA (kb : Nat) (a : Int) (w : World) : Prop := w.cell? ⟨kb, 0, none⟩ = some (.int .u8 a)
section
variable {own : Nat → Prop} {Got : Cells} {Rd : Nat → Prop} {Wg kb : Nat} {x n : Int} {w w₁ : World}
structure CallF (own : Nat → Prop) (Got : Cells) (Rd : Nat → Prop) (Wg kb : Nat) (x : Int) (w₀ w : World) : Prop where
 live : WgLive 66 Wg w
 rd : Rd kb
 box : BoxA kb x w
 keep : ∀ e f v, own e ∨ Got e f ∨ Rd e → w₀.cell? ⟨e, f, none⟩ = some v → w.cell? ⟨e, f, none⟩ = some v
 form : ∀ (b : Nat) (c : Array Value) (e : TypeId) (f : Nat × Nat), w₀.heap[b]? = some (Obj.cells c e f) → ∃ c' : Array Value, w.heap[b]? = some (Obj.cells c' e f)
theorem CallF.rely {w₀ : World} (h : CallF own Got Rd Wg kb x w₀ w) (r : KR 66 Wg own Got Rd w w₁) : CallF own Got Rd Wg kb x w₀ w₁ :=
 ⟨r.live h.live, h.rd, (r.cell kb 0 (cell_lt h.box) (.inr (.inr h.rd))).trans h.box, fun e f v he hv => (r.cell e f (cell_lt (h.keep e f v he hv)) he).trans (h.keep e f v he hv), fun b c e f hc => by
   obtain ⟨c1, h1⟩ := h.form b c e f hc
   obtain ⟨c2, h2, _⟩ := r.form b c1 e f h1
   exact ⟨c2, h2⟩⟩
theorem enter30 {a : Act} {o : Oper} {y z : Operand} {ats : Array TypeId} {v : Value} (hop : o.op = .call { callee := .value y, args := #[z], argTypes := ats }) (hy : a.eval y = fnV kb) (hz : a.eval z = v) :
   (execOp a.eval o).run Try.prog w = .ok (.enter 30 #[v, ptr kb]) w ∧ (execOp a.eval o).events Try.prog w #[] = #[] := by
 constructor
 · unfold execOp
   simp only [hop]
   simp [resolve, Deferred.ofValue, hy, hz, fnV, invoke, callFunc, Try.func30, Try.f30]
 · unfold execOp
   simp only [hop]
   simp [resolve, Deferred.ofValue, hy, hz, fnV, invoke, callFunc, Try.func30, Try.f30]
def CallsP (own : Nat → Prop) (Got : Cells) (Rd : Nat → Prop) (Wg : Nat) (fv : Value) (n : Int) (r : Value) (X : World → Prop) (nf : Nat) : Prop :=
 ∀ (b : Frame) (a : Act) (ops : Array Oper) (i : Nat) (rest : List Nat) (k : List Item) (cs : List Frame) (o : Oper) (y z : Operand) (ats : Array TypeId) (w : World), ops[i]? = some o → Region.wanted o (yielded ops a.tmps) = true → b.kind ≠ .early →
   o.op = .call { callee := .value y, args := #[z], argTypes := ats } → a.eval y = fv → a.eval z = .int .i64 n → WgLive 66 Wg w → X w →
   Goo Try.prog false own (KR 66 Wg own Got Rd) (KD Wg own Got Rd) (fun g w' => g = G (b.at (a.put o.dst r) (.inRegion ops rest :: k)) cs ∧ WgLive 66 Wg w' ∧ X w' ∧ (∀ e f v, own e ∨ Got e f ∨ Rd e → w.cell? ⟨e, f, none⟩ = some v → w'.cell? ⟨e, f, none⟩ = some v) ∧ ∀ (b : Nat) (c : Array Value) (e : TypeId) (f : Nat × Nat), w.heap[b]? = some (Obj.cells c e f) → ∃ c' : Array Value, w'.heap[b]? = some (Obj.cells c' e f)) nf (G (b.at a (.inRegion ops (i :: rest) :: k)) cs) w
theorem CallsP.calls {fv : Value} {r : Int} {X : World → Prop} {nf : Nat} (h : CallsP own Got Rd Wg fv n (.int .i64 r) X nf) : Calls own Got Rd Wg fv n r X X nf :=
 fun b a ops i rest k cs o y z ats w h1 h2 h3 h4 h5 h6 h7 h8 => (h b a ops i rest k cs o y z ats w h1 h2 h3 h4 h5 h6 h7 h8).imp fun _ _ x => ⟨x.1, x.2.1, x.2.2.1, fun e v he _ => x.2.2.2.1 e 0 v (.inr (.inr he))⟩
set_option maxRecDepth 100000 in
theorem call30P (hr : Rd kb) (hx : 0 ≤ x ∧ x < 256) : CallsP own Got Rd Wg (fnV kb) n (.int .i64 (applyP x n)) (BoxA kb x) 80 := by
 intro b a ops i rest k cs o y z ats w ho hw hk hop hy hz hl hb
 have hD : ∀ w, KD Wg own Got Rd w w #[] := fun w => Gua.idle w
 suffices H : ∀ w₀, CallF own Got Rd Wg kb x w₀ w → Goes Try.prog false (KR 66 Wg own Got Rd) (KD Wg own Got Rd) (fun g w' => g = G (b.at (a.put o.dst (.int .i64 (applyP x n))) (.inRegion ops rest :: k)) cs ∧ CallF own Got Rd Wg kb x w₀ w') 80 (G (b.at a (.inRegion ops (i :: rest) :: k)) cs) w by
   exact (Goo.of_goes (H w ⟨hl, hr, hb, fun _ _ _ _ h => h, fun _ c _ _ h => ⟨c, h⟩⟩)).imp fun g w' h => ⟨h.1, h.2.live, h.2.box, h.2.keep, h.2.form⟩
 intro w₀ hF
 clear hl hb
 have rl : ∀ {w w₁ : World}, CallF own Got Rd Wg kb x w₀ w → KR 66 Wg own Got Rd w w₁ → CallF own Got Rd Wg kb x w₀ w₁ := fun h r => h.rely r
 (refine Goes.step rfl (fun _ h₁ => ?_); replace hF := rl hF h₁; clear h₁)
 rw [stepG_enter ho hw hk (enter30 hop hy hz).1, listed_nil (enter30 hop hy hz).2, enter_at _ Try.func30 rfl]
 simp only [goes_go]
 refine ⟨by exact hD _, ?_⟩
 simp only [Try.f30]
 walk_nrm
 repeat ((first | ((with_reducible refine g_opG ?_); first | (refine g_unw hD rfl rfl ?_; intro _ h₁; replace hF := rl hF h₁; clear h₁; walk_nrm) | (refine Goes.step rfl ?_; intro _ h₁; replace hF := rl hF h₁; clear h₁; refine goes_oper_k rfl rfl (by k_ne) fun K hK => ?_; go_simp; refine hK _ _ ⟨g_idle hD fun e he => by have hm := mem_listed he; simp [go_sem, *] at hm, ?_⟩; clear hK K; try w_num)) | ((first | ((with_reducible refine g_c (k' := ?_) true true hD ?_ ?_); rotate_left; focus exact rfl) | with_reducible refine g_r hD rfl ?_); intro _ h₁; replace hF := rl hF h₁; clear h₁)))
 (refine Goes.step rfl (fun _ h₁ => ?_); replace hF := rl hF h₁; clear h₁)
 refine goes_oper_k rfl rfl (by decide) (fun K hK => ?_)
 have h1 : World.cell? _ ⟨kb, 0, none⟩ = some (.int .u8 x) := hF.box
 go_simp
 refine hK _ _ ⟨gua_read fun e he => ?_, ?_⟩
 · have hm := mem_listed he
   simp [go_sem, h1] at hm
   exact ⟨_, hm, cell_lt h1, .inr (.inr (.inr hF.rd))⟩
 clear hK K h1
 try walk_nrm
 (refine Goes.step rfl (fun _ h₁ => ?_); replace hF := rl hF h₁; clear h₁; refine goes_oper_k rfl rfl (by k_ne) (fun K hK => ?_); go_simp; refine hK _ _ ⟨?_, ?_⟩; (focus (refine g_idle hD ?_; intro e he; have hm := mem_listed he; simp [go_sem, *] at hm; done)); clear hK K; try w_num)
 ((with_reducible refine g_opG ?_); refine Goes.step rfl (fun _ h₁ => ?_); replace hF := rl hF h₁; clear h₁; refine goes_call rfl rfl (by k_ne) rfl Try.func31 rfl rfl ⟨hD _, ?_⟩; walk_nrmf Try.f31)
 repeat ((first | ((with_reducible refine g_opG ?_); first | (refine g_unw hD rfl rfl ?_; intro _ h₁; replace hF := rl hF h₁; clear h₁; walk_nrm) | (refine Goes.step rfl ?_; intro _ h₁; replace hF := rl hF h₁; clear h₁; refine goes_oper_k rfl rfl (by k_ne) fun K hK => ?_; go_simp; refine hK _ _ ⟨g_idle hD fun e he => by have hm := mem_listed he; simp [go_sem, *] at hm, ?_⟩; clear hK K; try w_num)) | ((first | ((with_reducible refine g_c (k' := ?_) true true hD ?_ ?_); rotate_left; focus exact rfl) | with_reducible refine g_r hD rfl ?_); intro _ h₁; replace hF := rl hF h₁; clear h₁)))
 have hm : x.tmod 5 = 0 ∨ x.tmod 5 = 1 ∨ x.tmod 5 = 2 ∨ x.tmod 5 = 3 ∨ x.tmod 5 = 4 := by rw [Int.tmod_eq_emod_of_nonneg hx.1]; omega
 rcases hm with hm | hm | hm | hm | hm <;> simp only [hm]
 · repeat (first | (first | ((with_reducible refine g_opG ?_); first | (refine g_unw hD rfl rfl ?_; intro _ h₁; replace hF := rl hF h₁; clear h₁; walk_nrm) | (refine Goes.step rfl ?_; intro _ h₁; replace hF := rl hF h₁; clear h₁; refine goes_oper_k rfl rfl (by k_ne) fun K hK => ?_; go_simp; refine hK _ _ ⟨g_idle hD fun e he => by have hm := mem_listed he; simp [go_sem, *] at hm, ?_⟩; clear hK K; try w_num)) | ((first | ((with_reducible refine g_c (k' := ?_) true true hD ?_ ?_); rotate_left; focus exact rfl) | with_reducible refine g_r hD rfl ?_); intro _ h₁; replace hF := rl hF h₁; clear h₁) | ((with_reducible refine g_lvG ?_); refine Goes.step rfl (fun _ h₁ => ?_); replace hF := rl hF h₁; clear h₁; refine goes_leave1 rfl rfl Try.func31 rfl ⟨hD _, ?_⟩; walk_nrm)))
   (refine Goes.step rfl (fun _ h₁ => ?_); replace hF := rl hF h₁; clear h₁)
   refine goes_leave1 rfl rfl Try.func30 rfl ⟨by exact hD _, ?_⟩
   rw [ho]
   simp only [applyP, hm]
   exact Goes.stop fun w₁ h₁ => ⟨rfl, rl hF h₁⟩
 · repeat (first | (first | ((with_reducible refine g_opG ?_); first | (refine g_unw hD rfl rfl ?_; intro _ h₁; replace hF := rl hF h₁; clear h₁; walk_nrm) | (refine Goes.step rfl ?_; intro _ h₁; replace hF := rl hF h₁; clear h₁; refine goes_oper_k rfl rfl (by k_ne) fun K hK => ?_; go_simp; refine hK _ _ ⟨g_idle hD fun e he => by have hm := mem_listed he; simp [go_sem, *] at hm, ?_⟩; clear hK K; try w_num)) | ((first | ((with_reducible refine g_c (k' := ?_) true true hD ?_ ?_); rotate_left; focus exact rfl) | with_reducible refine g_r hD rfl ?_); intro _ h₁; replace hF := rl hF h₁; clear h₁) | ((with_reducible refine g_lvG ?_); refine Goes.step rfl (fun _ h₁ => ?_); replace hF := rl hF h₁; clear h₁; refine goes_leave1 rfl rfl Try.func31 rfl ⟨hD _, ?_⟩; walk_nrm)))
   (refine Goes.step rfl (fun _ h₁ => ?_); replace hF := rl hF h₁; clear h₁)
   refine goes_leave1 rfl rfl Try.func30 rfl ⟨by exact hD _, ?_⟩
   rw [ho]
   simp only [applyP, hm]
   exact Goes.stop fun w₁ h₁ => ⟨rfl, rl hF h₁⟩
 · repeat (first | (first | ((with_reducible refine g_opG ?_); first | (refine g_unw hD rfl rfl ?_; intro _ h₁; replace hF := rl hF h₁; clear h₁; walk_nrm) | (refine Goes.step rfl ?_; intro _ h₁; replace hF := rl hF h₁; clear h₁; refine goes_oper_k rfl rfl (by k_ne) fun K hK => ?_; go_simp; refine hK _ _ ⟨g_idle hD fun e he => by have hm := mem_listed he; simp [go_sem, *] at hm, ?_⟩; clear hK K; try w_num)) | ((first | ((with_reducible refine g_c (k' := ?_) true true hD ?_ ?_); rotate_left; focus exact rfl) | with_reducible refine g_r hD rfl ?_); intro _ h₁; replace hF := rl hF h₁; clear h₁) | ((with_reducible refine g_lvG ?_); refine Goes.step rfl (fun _ h₁ => ?_); replace hF := rl hF h₁; clear h₁; refine goes_leave1 rfl rfl Try.func31 rfl ⟨hD _, ?_⟩; walk_nrm)))
   (refine Goes.step rfl (fun _ h₁ => ?_); replace hF := rl hF h₁; clear h₁)
   refine goes_leave1 rfl rfl Try.func30 rfl ⟨by exact hD _, ?_⟩
   rw [ho]
   simp only [applyP, hm]
   exact Goes.stop fun w₁ h₁ => ⟨rfl, rl hF h₁⟩
 · repeat (first | (first | ((with_reducible refine g_opG ?_); first | (refine g_unw hD rfl rfl ?_; intro _ h₁; replace hF := rl hF h₁; clear h₁; walk_nrm) | (refine Goes.step rfl ?_; intro _ h₁; replace hF := rl hF h₁; clear h₁; refine goes_oper_k rfl rfl (by k_ne) fun K hK => ?_; go_simp; refine hK _ _ ⟨g_idle hD fun e he => by have hm := mem_listed he; simp [go_sem, *] at hm, ?_⟩; clear hK K; try w_num)) | ((first | ((with_reducible refine g_c (k' := ?_) true true hD ?_ ?_); rotate_left; focus exact rfl) | with_reducible refine g_r hD rfl ?_); intro _ h₁; replace hF := rl hF h₁; clear h₁) | ((with_reducible refine g_lvG ?_); refine Goes.step rfl (fun _ h₁ => ?_); replace hF := rl hF h₁; clear h₁; refine goes_leave1 rfl rfl Try.func31 rfl ⟨hD _, ?_⟩; walk_nrm)))
   (refine Goes.step rfl (fun _ h₁ => ?_); replace hF := rl hF h₁; clear h₁)
   refine goes_leave1 rfl rfl Try.func30 rfl ⟨by exact hD _, ?_⟩
   rw [ho]
   simp only [applyP, hm]
   exact Goes.stop fun w₁ h₁ => ⟨rfl, rl hF h₁⟩
 · repeat (first | (first | ((with_reducible refine g_opG ?_); first | (refine g_unw hD rfl rfl ?_; intro _ h₁; replace hF := rl hF h₁; clear h₁; walk_nrm) | (refine Goes.step rfl ?_; intro _ h₁; replace hF := rl hF h₁; clear h₁; refine goes_oper_k rfl rfl (by k_ne) fun K hK => ?_; go_simp; refine hK _ _ ⟨g_idle hD fun e he => by have hm := mem_listed he; simp [go_sem, *] at hm, ?_⟩; clear hK K; try w_num)) | ((first | ((with_reducible refine g_c (k' := ?_) true true hD ?_ ?_); rotate_left; focus exact rfl) | with_reducible refine g_r hD rfl ?_); intro _ h₁; replace hF := rl hF h₁; clear h₁) | ((with_reducible refine g_lvG ?_); refine Goes.step rfl (fun _ h₁ => ?_); replace hF := rl hF h₁; clear h₁; refine goes_leave1 rfl rfl Try.func31 rfl ⟨hD _, ?_⟩; walk_nrm)))
   (refine Goes.step rfl (fun _ h₁ => ?_); replace hF := rl hF h₁; clear h₁)
   refine goes_leave1 rfl rfl Try.func30 rfl ⟨by exact hD _, ?_⟩
   rw [ho]
   simp only [applyP, hm]
   exact Goes.stop fun w₁ h₁ => ⟨rfl, rl hF h₁⟩
theorem call30 (hr : Rd kb) (hx : 0 ≤ x ∧ x < 256) : Calls own Got Rd Wg (fnV kb) n (applyP x n) (BoxA kb x) (BoxA kb x) 80 := (call30P hr hx).calls
end
end Go.Proofs.Ytblpmdolclalnaa
namespace Go.Proofs.Ytblpmdolclalnaa
open Go.Conc
open Go.ConcR (WgAt KK stA smA rd wr mk DC0)
open Go.ConcN (WgLive)
structure ChP where
 nf : Nat
 n : Nat
 c0 : Nat
 Wg : Nat
 nfuel : Nat
 fv : Nat → Value
 phi : Nat → Int → Int
 X : (Nat → Prop) → Cells → (Nat → Prop) → Nat → List Value → World → Prop
 need : (Nat → Prop) → Cells → (Nat → Prop) → Nat → Prop
def isI (v : Value) : Prop := ∃ x, v = .int .i64 x
def ChP.pp (q : ChP) : PP := { nf := q.nf, K := 1, c0 := q.c0, n := q.n, phi := fun s v => match v with | .int .i64 x => .int .i64 (q.phi s x) | v => v, okV := isI }
structure ChOK (q : ChP) : Prop where
 held : ∀ s, heldV (q.fv s)
 small : q.n ≤ 900000
 firm : ∀ own Got Rd s xs, q.need own Got Rd s → Firm own Got Rd q.Wg (q.X own Got Rd s xs)
 calls : ∀ own Got Rd s xs x, q.need own Got Rd s → xs.length < q.n → Calls own Got Rd q.Wg (q.fv s) x (q.phi s x) (q.X own Got Rd s xs) (q.X own Got Rd s (xs ++ [.int .i64 x])) q.nfuel
 chan : ∀ own Got Rd s xs d k w, q.need own Got Rd s → w.heap[d]? = some (.chan 0 #[] false k k false) → q.X own Got Rd s xs w → q.X own Got Rd s xs (w.setChan d 0 #[] true k k false)
def ChP.Kid (q : ChP) (own : Nat → Prop) (s : KS) (Got : Cells) (Rd : Nat → Prop) (g : Goroutine) (w : World) : Prop :=
 (s.kd < q.nf ∧ ∃ e12 e11 e10, s.env = [e12, e11, e10] ∧ q.need own Got Rd s.kd ∧ FwdF own Got Rd q.Wg e12 e11 e10 s.cin s.cout (q.fv s.kd) (q.X own Got Rd s.kd s.got) w ∧
   match s.ph with
   | .recv => ∃ T, FwdT q.Wg e12 e11 e10 s.cin T ∧ g = fwdAt q.Wg s.cout T
   | .send v => ∃ T r, v = .int .i64 r ∧ FwdS q.Wg e12 e11 e10 s.cin s.cout r T ∧ g = fwdSend q.Wg s.cout T
   | .shut => ∃ T, g = fwdOut q.Wg s.cout T
   | .done => AtRel0 Try.prog 66 q.Wg g w) ∨
 (q.nf ≤ s.kd ∧ ∃ e8 e13, s.env = [e8, e13] ∧ SnkF own Got Rd q.Wg e8 e13 s.cin s.got w ∧
   match s.ph with
   | .recv => ∃ T, SnkT q.Wg e8 e13 s.cin T ∧ g = sinkAt q.Wg T
   | .done => AtRel0 Try.prog 66 q.Wg g w
   | _ => False)
def ChP.Fin (q : ChP) (s : KS) (w : World) : Prop :=
 (s.kd < q.nf → ∃ own Got Rd, q.need own Got Rd s.kd ∧ q.X own Got Rd s.kd s.got w) ∧
 (q.nf ≤ s.kd → ∃ e8 e13 v, s.env = [e8, e13] ∧ w.cell? ⟨e13, 0, none⟩ = some v ∧ w.ownsRow 0 3 1 v s.got.length s.got)
def noGift (_ : Value) : Cells := fun _ _ => False
theorem sink_recv {Wg e8 e13 c : Nat} {T : Array Value} {w : World} (hT : SnkT Wg e8 e13 c T) : stepG Try.prog false (sinkAt Wg T) w = .comm (bare (sinkAt Wg T)) #[rcase c (.int .i64 0)] true (.recv true) w #[] := by
 have h : ((⟨T, [dcall 28 #[ptr Wg]]⟩ : Act).eval (.tmp 4)) = .chan (some c) := by simp [Act.eval, hT.t4]
 exact stepG_recv (t := 75) (e := 3) (x := .tmp 4) rfl rfl (by decide) rfl h Try.underlying75 Try.zeroValue3
theorem fwd_recv {Wg e12 e11 e10 c d : Nat} {T : Array Value} {w : World} (hT : FwdT Wg e12 e11 e10 c T) : stepG Try.prog false (fwdAt Wg d T) w = .comm (bare (fwdAt Wg d T)) #[rcase c (.int .i64 0)] true (.recv true) w #[] := by
 have h : ((⟨T, fwdD Wg d⟩ : Act).eval (.tmp 6)) = .chan (some c) := by simp [Act.eval, hT.t6]
 exact stepG_recv (t := 75) (e := 3) (x := .tmp 6) rfl rfl (by decide) rfl h Try.underlying75 Try.zeroValue3
theorem fwd_sends {Wg e12 e11 e10 c d : Nat} {r : Int} {T : Array Value} {w : World} (hT : FwdS Wg e12 e11 e10 c d r T) : stepG Try.prog false (fwdSend Wg d T) w = .comm (bare (fwdSend Wg d T)) #[scase d (.int .i64 r) (.tuple #[])] true .send w #[] := by
 have h : ((⟨T, fwdD Wg d⟩ : Act).eval (.tmp 10)) = .chan (some d) := by simp [Act.eval, hT.t10]
 have h' : ((⟨T, fwdD Wg d⟩ : Act).eval (.tmp 13)) = .int .i64 r := by simp [Act.eval, hT.t13]
 exact stepG_send (x := .tmp 10) (y := .tmp 13) rfl rfl (by decide) rfl h h'
end Go.Proofs.Ytblpmdolclalnaa
