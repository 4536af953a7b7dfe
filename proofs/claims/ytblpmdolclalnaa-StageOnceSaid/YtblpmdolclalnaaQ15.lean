/- Chain[int], goroutine 0: the go statement of the sink; into the range statement and its iterator. Made by gen_cmg.py. Chain[int], goroutine 0: a round of the range statement, from the iterator's loop to the send and back; its end. Made by gen_cmh.py. Chain[int]: the call as a net: goroutine 0's places; what the net asks of it. -/
import Derived.Test.YtblpmdolclalnaaQ14
set_option maxHeartbeats 16000000
set_option linter.unusedSimpArgs false
set_option linter.unusedVariables false
namespace Go.Proofs.Ytblpmdolclalnaa
open Go.Conc Go.RowKit Go.Conc.Lib Go.ConcR.Gen Go.ConcN.Gen
open Go.ConcR (WgAt KK stA smA rd wr mk DC0)
open Go.ConcN (WgLive)
noncomputable def rng16 : Code := cI (cS (cF (tl16 9)))
noncomputable def asg16 : Code := match rng16 with | .rangeFunc _ _ a _ => a | c => c
noncomputable def bdr16 : Code := match rng16 with | .rangeFunc _ _ _ b => b | c => c
noncomputable def rec16 (T : Array Value) (d : Nat) (s : LoopState) : Loop := { state := s, pending := none, fn := 16, tmps := T, params := #[43], assign := asg16, body := bdr16, defers := d }
noncomputable def f16R (T : Array Value) (l d : Nat) : Frame := (base 16).at ⟨T, [{ target := .collected d, args := #[] }]⟩ (.inRangeFunc l :: [.inBlock 2, .code (tl16 10)])
def yieldV (l : Nat) : Value := .func (.yield l) #[] #[]
structure RI (m : ChM) (own : Nat → Prop) (Given : Cells) (Fz : Nat → Prop) (e7 e8 ci l d : Nat) (r : Loop) (w : World) : Prop where
 cw : CW m Given Fz (m.q.nf + 1) e7 e8 ci w
 lp : LoopF own Given Fz m.n0 l d r w
def AtIter (m : ChM) (own : Nat → Prop) (Given : Cells) (Fz : Nat → Prop) (kl e7 e8 e13 i : Nat) (g : Goroutine) (w : World) : Prop :=
 ∃ U T l d ci, ItU kl (yieldV l) m.xs.length i U ∧ HTs m e7 e8 e13 T ∧ g = G ((base 32).at ⟨U, []⟩ [.code lp32, .inLoop lp32, .inBlock 0]) (f16R T l d :: m.cs) ∧ RI m own Given Fz e7 e8 ci l d (rec16 T d .ready) w
section
variable {m : ChM} {own : Nat → Prop} {Given : Cells} {Fz : Nat → Prop} {p e7 e8 ci e13 l d : Nat} {r r' : Loop} {w w₁ : World}
theorem RI.rely (g : CG m own Given Fz (m.q.nf + 1) e7 e8) (h : RI m own Given Fz e7 e8 ci l d r w) (q : MR 66 m.q.Wg own Given w w₁) : RI m own Given Fz e7 e8 ci l d r w₁ := ⟨h.cw.rely g q, h.lp.rely q⟩
theorem CW.put {b : Nat} {o o' : Obj} (h : CW m Given Fz p e7 e8 ci w) (hb : m.n0 ≤ b) (ho : w.heap[b]? = some o) (hc : ∀ c e f, o ≠ .cells c e f) (hch : p ≠ 0) : CW m Given Fz p e7 e8 ci (w.putObj b o') := by
 have hne : ∀ b', b' ≠ b → (w.putObj b o').heap[b']? = w.heap[b']? := fun b' hb' => World.putObj_heap_other hb'
 have hcell : ∀ b' v, w.cell? ⟨b', 0, none⟩ = some v → b' ≠ b := fun b' v hv e => by
   subst e
   cases o <;> simp [World.cell?, ho] at hv
   exact hc _ _ _ rfl
 obtain ⟨cs, hc8⟩ := h.b8
 obtain ⟨st, sm, hl⟩ := h.live
 have hWg : m.q.Wg ≠ b := fun e => by
   have hl' : w.heap[m.q.Wg]? = some (Go.ConcR.wgBlock 66 st sm) := hl
   rw [e, ho] at hl'
   exact hc _ _ _ (Option.some.inj hl')
 have hsz : (w.putObj b o').heap.size = w.heap.size := World.putObj_size
 exact ⟨⟨st, sm, hl.of_block (hne _ hWg)⟩, (cell?_eq (hne e7 (hcell _ _ h.c7)) 0).trans h.c7, (cell?_eq (hne e8 (hcell _ _ h.c8)) 0).trans h.c8, ⟨cs, (hne e8 (hcell _ _ h.c8)).trans hc8⟩, h.out.put _ hb,
   fun b x hx => by rw [hsz]; exact h.gsz b x hx, fun b hx => by rw [hsz]; exact h.fsz b hx, by rw [hsz]; exact h.lt, h.low, fun h0 => absurd h0 hch⟩
theorem RI.put (h : RI m own Given Fz e7 e8 ci l d r w) : RI m own Given Fz e7 e8 ci l d r' (w.putObj l (.loop r')) :=
 ⟨h.cw.put h.lp.ol.2.2.2 h.lp.rcd (fun _ _ _ e => by cases e) (by omega), h.lp.put⟩
/-! ### the sink's shares -/
def GvS (e13 : Nat) (chs : List Nat) (Given : Cells) : Cells := fun b x => Given b x ∨ (b = e13 ∧ x = 0) ∨ b ∈ chs
def FzS (e8 : Nat) (Fz : Nat → Prop) : Nat → Prop := fun b => Fz b ∨ b = e8
def chsS (m : ChM) : List Nat := (if m.q.nf = 0 then [m.q.c0] else []) ++ (if m.q.nf < m.q.nf then [0] else [])
theorem chsS_mem {b : Nat} : b ∈ chsS m ↔ m.q.nf = 0 ∧ b = m.q.c0 := by
 unfold chsS
 rw [if_neg (Nat.lt_irrefl _), List.append_nil]
 by_cases h : m.q.nf = 0 <;> simp [h]
theorem RS.not_ch (h : RS m own Given Fz e7 e8 ci e13 w) {b : Nat} {v : Value} (hv : w.cell? ⟨b, 0, none⟩ = some v) : b ∉ chsS m := fun hb => by
 obtain ⟨h0, rfl⟩ := chsS_mem.1 hb
 exact cells_ne_chan hv (h.cw.ch0 h0)
theorem RS.low_ch (hm : ChMOK m) {b : Nat} (hb : b < m.n0) : b ∉ chsS m := fun hc => by
 have h1 := hm.c0
 have := (chsS_mem.1 hc).2
 omega
theorem cg_snk (hm : ChMOK m) (g : CG m own Given Fz m.q.nf e7 e8) (h : RS m own Given Fz e7 e8 ci e13 w) : CG m own (GvS e13 (chsS m) Given) (FzS e8 Fz) (m.q.nf + 1) e7 e8 where
 outer := g.outer
 given b x hb hx := by
   rcases hx with hx | ⟨rfl, rfl⟩ | hx
   · exact (g.given b x hb hx).imp id fun ⟨s, h1, h2⟩ => ⟨s, by omega, h2⟩
   · have := h.b13.low; omega
   · exact absurd hx (RS.low_ch hm hb)
 fz b hb hx := by
   rcases hx with hx | rfl
   · obtain ⟨s, h1, h2⟩ := g.fz b hb hx
     exact ⟨s, by omega, h2⟩
   · have := g.n7.2.1; omega
 wg x := .inl (g.wg x)
 n7 := g.n7
 o7 := ⟨g.o7.1, fun x hx => by
   rcases hx with hx | ⟨e, _⟩ | hx
   · exact g.o7.2 x hx
   · exact h.b13.n7.1 e.symm
   · exact h.not_ch h.cw.c7 hx⟩
 o8 := ⟨g.o8.1, fun x hx => by
   rcases hx with hx | ⟨e, _⟩ | hx
   · exact g.o8.2 x hx
   · exact h.b13.n7.2 e.symm
   · exact h.not_ch h.cw.c8 hx⟩
 f8 h := by omega
 c0 h := by omega
theorem cw_snk (h : RS m own Given Fz e7 e8 ci e13 w) : CW m (GvS e13 (chsS m) Given) (FzS e8 Fz) (m.q.nf + 1) e7 e8 ci w := by
 refine ⟨h.cw.live, h.cw.c7, h.cw.c8, h.cw.b8, h.cw.out.less fun b x _ hx => .inl hx, fun b x hx => ?_, fun b hx => ?_, h.cw.lt, h.cw.low, fun h0 => by omega⟩
 · rcases hx with hx | ⟨rfl, _⟩ | hx
   · exact h.cw.gsz b x hx
   · exact h.b13.lt
   · obtain ⟨h0, rfl⟩ := chsS_mem.1 hx
     exact (Array.getElem?_eq_some_iff.1 (h.cw.ch0 h0)).1
 · rcases hx with hx | rfl
   · exact h.cw.fsz b hx
   · exact cell_lt h.cw.c8
theorem kid_snk {x : Flesh} (hx : FleshC m.q x) (hF : RS m own Given Fz e7 e8 ci e13 w) (kown : Nat → Prop) :
   KRun Try.prog 66 m.q.Wg (m.q.pp.net x) kown ⟨m.q.nf, ci, 0, [e8, e13], .recv, []⟩ (fun b y => b = e13 ∧ y = 0) (fun b => b = e8) (born Try.prog (call36 m.q.Wg e8 e13)) w := by
 have hFw : SnkF kown (fun b y => b = e13 ∧ y = 0) (fun b => b = e8) m.q.Wg e8 e13 ci [] w :=
   ⟨hF.cw.live, rfl, ⟨rfl, rfl⟩, hF.cw.c8, hF.cw.b8, hF.b13.typ, ⟨_, hF.c13, ⟨rfl, .inl ⟨rfl, rfl⟩⟩, fun g hg => by cases hg⟩, fun x hx => by cases hx⟩
 refine Goo.mono (Goo.imp (fun g' w' h => ?_) (Goo.of_goes (sink_born hFw))) (by show 20 ≤ x.fuel; have := hx.fuel; omega)
 obtain ⟨T, hT, rfl, hF'⟩ := h
 show x.Kid _ _ _ _ _ _
 rw [hx.kid]
 exact .inr ⟨Nat.le_refl _, e8, e13, rfl, hF', T, hT, rfl⟩
/-! ### into the iterator -/
theorem res32 {a : Act} {t : Tmp} {kl : Nat} (hy : a.eval (.tmp t) = seqV kl) (l : Nat) (w : World) :
   (resolve a.eval { callee := .value (.tmp t), args := #[.const (.func (.yield l) #[] #[])], argTypes := #[] } 0).run Try.prog w = .ok { target := .fn (.func 32) #[ptr kl], args := #[yieldV l] } w ∧
   (resolve a.eval { callee := .value (.tmp t), args := #[.const (.func (.yield l) #[] #[])], argTypes := #[] } 0).events Try.prog w #[] = #[] := by
 have ec : ∀ v, a.eval (.const v) = v := fun _ => rfl
 constructor
 · simp [resolve, Deferred.ofValue, hy, seqV, yieldV, ec]
 · simp [resolve, Deferred.ofValue, hy, seqV, ec]
theorem inv32 (kl l : Nat) (w : World) : (invoke (.fn (.func 32) #[ptr kl]) #[yieldV l]).run Try.prog w = .ok (.enter 32 #[yieldV l, ptr kl]) w ∧ (invoke (.fn (.func 32) #[ptr kl]) #[yieldV l]).events Try.prog w #[] = #[] := by
 constructor
 · simp [invoke, callFunc, Try.func32, Try.f32]
 · simp [invoke, callFunc, Try.func32, Try.f32]
theorem goes_range32 {main : Bool} {b : Frame} {a : Act} {k : List Item} {cs : List Frame} {w : World} {K : Goroutine → World → Array Event → Prop} {ps : Array Tmp} {assign body : Code} {t : Tmp} {kl : Nat} (hy : a.eval (.tmp t) = seqV kl)
   (h : K (G ((base 32).at ⟨#[yieldV (w.heap.size + 1), ptr kl, undef, undef, undef, undef, undef, undef, undef, undef, undef, undef, undef, undef, undef, undef, undef], []⟩ [.code body32]) (b.at ⟨a.tmps, { target := .collected w.heap.size, args := #[] } :: a.defers⟩ (.inRangeFunc (w.heap.size + 1) :: k) :: cs))
     ((w.alloc (.deferred (some []))).alloc (.loop { state := .ready, pending := none, fn := b.fn, tmps := a.tmps, params := ps, assign := assign, body := body, defers := w.heap.size })) #[]) :
   (stepG Try.prog main (G (b.at a (.code (.rangeFunc (.tmp t) ps assign body) :: k)) cs) w).goes K := by
 rw [stepG_rangeFunc (l := w.heap.size + 1) (run_enterLoop_outer _ _ _ _ _) (res32 hy _ _).1 (inv32 kl _ _).1 (res32 hy _ _).2 (inv32 kl _ _).2, enter_at _ Try.func32 rfl]
 exact h
def ops16 : Code → Array Oper := fun c => cO (cF c)
theorem ri_new (hF : CW m Given Fz (m.q.nf + 1) e7 e8 ci w) (n1 : own w.heap.size) (n2 : own (w.heap.size + 1)) : RI m own Given Fz e7 e8 ci (w.heap.size + 1) w.heap.size r ((w.alloc (.deferred (some []))).alloc (.loop r)) :=
 ⟨(hF.alloc _).alloc _, ⟨n2, fun x hx => by have := hF.gsz _ x hx; omega, fun hx => by have := hF.fsz _ hx; omega, by have := hF.out.size; omega⟩, ⟨n1, fun x hx => by have := hF.gsz _ x hx; omega, fun hx => by have := hF.fsz _ hx; omega, hF.out.size⟩,
   by have := heap_alloc_new (w.alloc (.deferred (some []))) (.loop r); simpa using this, (heap_alloc_old _ _ _ (by simp only [World.size_alloc]; omega)).trans (heap_alloc_new _ _)⟩
set_option maxRecDepth 100000 in
theorem after_snk (hm : ChMOK m) {kl cap : Nat} {sa : Option Addr} (hi : ItOK m kl sa cap) (g : CG m own Given Fz (m.q.nf + 1) e7 e8) {T : Array Value} {v41 : Value} (hT : HTs m e7 e8 e13 T) (hF : CW m Given Fz (m.q.nf + 1) e7 e8 ci w) :
   Goo Try.prog true own (MR 66 m.q.Wg own Given) (MD m.q.Wg own Given Fz) (AtIter m own Given Fz kl e7 e8 e13 0) 60
     (G ((base 16).at ⟨((T.setIfInBounds 40 (.tuple #[])).setIfInBounds 41 v41), []⟩ (.inRegion (ops16 (tl16 8)) [] :: [.code (tl16 9)])) m.cs) w := by
 have hD : ∀ w, MD m.q.Wg own Given Fz w w #[] := fun w => Gua.idle w
 have rl : ∀ {w w₁ : World}, CW m Given Fz (m.q.nf + 1) e7 e8 ci w → MR 66 m.q.Wg own Given w w₁ → CW m Given Fz (m.q.nf + 1) e7 e8 ci w₁ := fun h r => h.rely g r
 obtain ⟨hs, t0, t6, t7, t8, t13, l13⟩ := hT
 obtain ⟨v0, v1, v2, v3, v4, v5, v6, v7, v8, v9, v10, v11, v12, v13, v14, v15, v16, v17, v18, v19, v20, v21, v22, v23, v24, v25, v26, v27, v28, v29, v30, v31, v32, v33, v34, v35, v36, v37, v38, v39, v40, v41, v42, v43, v44, v45, v46, v47, v48, rfl⟩ := array49 T hs
 simp only [List.getElem?_toArray, List.getElem?_cons_zero, List.getElem?_cons_succ, Option.some.injEq] at t0 t6 t7 t8 t13
 subst t0 t6 t7 t8 t13
 clear hs
 simp only [ops16, tl16, cS, cF, cO, body16, Try.f16, Option.getD_some]
 refine Goo.on (MR.refl' _) (n := 12) (m := 48) ?_
 try walk_nrm
 repeat ((first | ((with_reducible refine g_opG ?_); first | (refine g_unw hD rfl rfl ?_; intro _ h₁; replace hF := rl hF h₁; clear h₁; walk_nrm) | (refine Goes.step rfl ?_; intro _ h₁; replace hF := rl hF h₁; clear h₁; refine goes_oper_k rfl rfl (by k_ne) fun K hK => ?_; go_simp; refine hK _ _ ⟨g_idle hD fun e he => by have hm := mem_listed he; simp [go_sem, *] at hm, ?_⟩; clear hK K; try w_num)) | ((first | ((with_reducible refine g_c (k' := ?_) true true hD ?_ ?_); rotate_left; focus exact rfl) | with_reducible refine g_r hD rfl ?_); intro _ h₁; replace hF := rl hF h₁; clear h₁)))
 refine Goes.stop fun w₁ h₁ => ?_
 replace hF := rl hF h₁
 clear h₁
 refine Goo.step (n := 47) rfl fun w₂ h₂ => ?_
 replace hF := rl hF h₂
 clear h₂
 refine goes_range32 hi.fv ⟨gua_but (S := fun _ => False) (fun _ h => h.elim) (by simp only [World.size_alloc]; omega) (fun b hb _ => (heap_alloc_old _ _ b (by simp only [World.size_alloc]; omega)).trans (heap_alloc_old _ _ b hb)) (fun _ _ h => h.elim) rfl rfl rfl (fun e he => by simp at he), fun hnew => ?_⟩
 have n1 : own w₂.heap.size := hnew _ (Nat.le_refl _) (by simp only [World.size_alloc]; omega)
 have n2 : own (w₂.heap.size + 1) := hnew _ (by omega) (by simp only [World.size_alloc]; omega)
 refine Goo.mono (n := 20) (Goo.of_goes (it_first (F := RI m own Given Fz e7 e8 ci (w₂.heap.size + 1) w₂.heap.size _) (kl := kl) (cap := cap) (sa := sa) (xs := m.xs) (ri_new hF n1 n2) (fun h r => h.rely g r) (fun w h => h.cw.it hm g hi) fun U' w' hF' hU' => ?_)) (by omega)
 exact ⟨U', _, _, _, ci, hU', ⟨rfl, rfl, rfl, rfl, rfl, rfl, l13⟩, rfl, hF'⟩
set_option maxRecDepth 100000 in
theorem at_snk (hm : ChMOK m) {x : Flesh} (hx : FleshC m.q x) (hgv : x.give (.hire m.q.nf ci 0 [e8, e13]) = fun b y => b = e13 ∧ y = 0) (hrd : x.reads (.hire m.q.nf ci 0 [e8, e13]) = fun b => b = e8)
   (g : CG m own Given Fz m.q.nf e7 e8) {T : Array Value} (hT : HTs m e7 e8 e13 T) {en : List Nat} {kl cap : Nat} {sa : Option Addr} (hi : ItOK m kl sa cap)
   (hRun : ∀ g' w', CG m own (GvS e13 (chsS m) Given) (FzS e8 Fz) (m.q.nf + 1) e7 e8 → AtIter m own (GvS e13 (chsS m) Given) (FzS e8 Fz) kl e7 e8 e13 0 g' w' →
     MGoo Try.prog 66 m.q.Wg own (GvS e13 (chsS m) Given) (FzS e8 Fz) (fun g w => ∃ m', m.q.pp.succE (.hire m.q.nf ci 0 [e8, e13], en) m' ∧ x.Main own m' (GvS e13 (chsS m) Given) (FzS e8 Fz) g w) 120 g' w')
   (hF : RS m own Given Fz e7 e8 ci e13 w) :
   AtGo Try.prog 66 m.q.Wg (m.q.pp.net x) own (.hire m.q.nf ci 0 [e8, e13], en) Given Fz (G ((base 16).at ⟨((T.setIfInBounds 40 (.tuple #[])).setIfInBounds 41 (.func (.func 36) #[] #[ptr m.q.Wg, ptr e8, ptr e13])), []⟩ (.inRegion (ops16 (tl16 8)) [1] :: [.code (tl16 9)])) m.cs) w := by
 have hf := hx.fuel
 have g' := cg_snk hm g hF
 have hR := cw_snk hF
 have hsz := hF.cw.out.size
 have h37 : ((⟨((T.setIfInBounds 40 (.tuple #[])).setIfInBounds 41 (.func (.func 36) #[] #[ptr m.q.Wg, ptr e8, ptr e13])), []⟩ : Act).eval (.tmp 41)) = .func (.func 36) #[] #[ptr m.q.Wg, ptr e8, ptr e13] := by
   have := hT.size
   simp [Act.eval, this]
 have hgo := go_op (P := Try.prog) (w := w) (o := { dst := none, op := .go { callee := .value (.tmp 41), args := #[], argTypes := #[] }, type := 0, pos := "stage.go:74", after := #[{ on := 0, ground := .data }], guard := none }) rfl h37
 refine ⟨rfl, _, born Try.prog (call36 m.q.Wg e8 e13), (stepG_spawn (o := { dst := none, op := .go { callee := .value (.tmp 41), args := #[], argTypes := #[] }, type := 0, pos := "stage.go:74", after := #[{ on := 0, ground := .data }], guard := none }) rfl rfl (by decide) hgo.1 rfl).trans (by rw [listed_nil hgo.2]; rfl), ?_, ?_, ?_, ?_, ?_⟩
 · intro b y hb
   replace hb : b = e13 ∧ y = 0 := by
     have : x.give (.hire m.q.nf ci 0 [e8, e13]) b y := hb
     rwa [hgv] at this
   obtain ⟨rfl, rfl⟩ := hb
   exact ⟨hF.b13.lt, hF.b13.own, hF.b13.given 0, hF.b13.fz, hF.not_ch hF.c13⟩
 · intro b hb
   replace hb : b = e8 := by
     have : x.reads (.hire m.q.nf ci 0 [e8, e13]) b := hb
     rwa [hrd] at this
   subst hb
   refine ⟨cell_lt hF.cw.c8, g.o8.1, fun y => ⟨g.o8.2 y, fun h => ?_⟩, hF.not_ch hF.cw.c8⟩
   have h : x.give (.hire m.q.nf ci 0 [b, e13]) b y := h
   rw [hgv] at h
   exact hF.b13.n7.2 h.1.symm
 · intro c hc
   obtain ⟨h0, rfl⟩ := chsS_mem.1 hc
   exact ⟨(g.c0 h0).1, (g.c0 h0).2.1, (g.c0 h0).2.2, hF.cw.ch0 h0⟩
 · intro kown
   show KRun _ _ _ _ _ _ (x.give (.hire m.q.nf ci 0 [e8, e13])) (x.reads (.hire m.q.nf ci 0 [e8, e13])) _ _
   rw [hgv, hrd]
   exact kid_snk hx hF kown
 · show MRun _ _ _ _ _ _ (fun b y => Given b y ∨ x.give (.hire m.q.nf ci 0 [e8, e13]) b y ∨ b ∈ chsS m) (fun b => Fz b ∨ x.reads (.hire m.q.nf ci 0 [e8, e13]) b) _ _
   rw [hgv, hrd]
   exact MRun.of (after_snk hm hi g' hT hR) (fun g w h => hRun g w g' h) (by show 120 + 60 ≤ x.fuel; omega)
set_option maxRecDepth 100000 in
theorem go_snk (hm : ChMOK m) {x : Flesh} (hx : FleshC m.q x) (hgv : x.give (.hire m.q.nf ci 0 [e8, e13]) = fun b y => b = e13 ∧ y = 0) (hrd : x.reads (.hire m.q.nf ci 0 [e8, e13]) = fun b => b = e8)
   (g : CG m own Given Fz m.q.nf e7 e8) {T : Array Value} (hT : HTs m e7 e8 e13 T) {en : List Nat} {kl cap : Nat} {sa : Option Addr} (hi : ItOK m kl sa cap)
   (hRun : ∀ g' w', CG m own (GvS e13 (chsS m) Given) (FzS e8 Fz) (m.q.nf + 1) e7 e8 → AtIter m own (GvS e13 (chsS m) Given) (FzS e8 Fz) kl e7 e8 e13 0 g' w' →
     MGoo Try.prog 66 m.q.Wg own (GvS e13 (chsS m) Given) (FzS e8 Fz) (fun g w => ∃ m', m.q.pp.succE (.hire m.q.nf ci 0 [e8, e13], en) m' ∧ x.Main own m' (GvS e13 (chsS m) Given) (FzS e8 Fz) g w) 120 g' w')
   (w : World) (hF : RS m own Given Fz e7 e8 ci e13 w) :
   MGoo Try.prog 66 m.q.Wg own Given Fz (AtGo Try.prog 66 m.q.Wg (m.q.pp.net x) own (.hire m.q.nf ci 0 [e8, e13], en) Given Fz) 12 (G ((base 16).at ⟨T.setIfInBounds 40 (.tuple #[]), []⟩ (.inRegion ops15 [] :: k15)) m.cs) w := by
 have hD : ∀ w, MD m.q.Wg own Given Fz w w #[] := fun w => Gua.idle w
 have rl : ∀ {w w₁ : World}, RS m own Given Fz e7 e8 ci e13 w → MR 66 m.q.Wg own Given w w₁ → RS m own Given Fz e7 e8 ci e13 w₁ := fun h r => RS.rely g h r
 have fin := fun w h => at_snk (w := w) hm hx hgv hrd g hT hi hRun h
 generalize AtGo Try.prog 66 m.q.Wg (m.q.pp.net x) own (.hire m.q.nf ci 0 [e8, e13], en) Given Fz = Stop at fin ⊢
 replace fin := Hd.mk fin
 clear hRun hgv hrd hx hm hi
 obtain ⟨hs, t0, t6, t7, t8, t13, l13⟩ := hT
 obtain ⟨v0, v1, v2, v3, v4, v5, v6, v7, v8, v9, v10, v11, v12, v13, v14, v15, v16, v17, v18, v19, v20, v21, v22, v23, v24, v25, v26, v27, v28, v29, v30, v31, v32, v33, v34, v35, v36, v37, v38, v39, v40, v41, v42, v43, v44, v45, v46, v47, v48, rfl⟩ := array49 T hs
 simp only [List.getElem?_toArray, List.getElem?_cons_zero, List.getElem?_cons_succ, Option.some.injEq] at t0 t6 t7 t8 t13
 subst t0 t6 t7 t8 t13
 clear hs
 simp only [ops15, k15, tl16, cS, cF, cO, body16, Try.f16, Option.getD_some]
 refine Goo.of_goes (n := 12) ?_
 try walk_nrm
 repeat ((first | ((first | ((with_reducible refine g_c (k' := ?_) true true hD ?_ ?_); rotate_left; focus exact rfl) | with_reducible refine g_r hD rfl ?_); intro _ h₁; replace hF := rl hF h₁; clear h₁)))
 (first | ((with_reducible refine g_opG ?_); first | (refine g_unw hD rfl rfl ?_; intro _ h₁; replace hF := rl hF h₁; clear h₁; walk_nrm) | (refine Goes.step rfl ?_; intro _ h₁; replace hF := rl hF h₁; clear h₁; refine goes_oper_k rfl rfl (by k_ne) fun K hK => ?_; go_simp; refine hK _ _ ⟨g_idle hD fun e he => by have hm := mem_listed he; simp [go_sem, *] at hm, ?_⟩; clear hK K; try w_num)) | ((first | ((with_reducible refine g_c (k' := ?_) true true hD ?_ ?_); rotate_left; focus exact rfl) | with_reducible refine g_r hD rfl ?_); intro _ h₁; replace hF := rl hF h₁; clear h₁))
 exact Goes.stop fun w₁ h₁ => fin.out w₁ (rl hF h₁)
end
/-! ### a round's steps of control, for a walk -/
section
variable {P : Program} {main : Bool} {R : World → World → Prop} {D : World → World → Array Event → Prop} {Stop : Goroutine → World → Prop} {n : Nat} {b : Frame} {a : Act} {k : List Item} {cs : List Frame} {w : World}
theorem r_reg (hD : ∀ w, D w w #[]) {id : Nat} {ops : Array Oper} (h : ∀ w₁, R w w₁ → Goes P main R D Stop n (G (b.atR a (.inRegion ops (List.range ops.size) :: k)) cs) w₁) : Goes P main R D Stop (n + 1) (G (b.atR a (.code (.region id ops false) :: k)) cs) w := g_ctl hD rfl (fun _ => stepGR_region) h
theorem r_regE (hD : ∀ w, D w w #[]) {ops : Array Oper} (h : ∀ w₁, R w w₁ → Goes P main R D Stop n (G (b.atR a k) cs) w₁) : Goes P main R D Stop (n + 1) (G (b.atR a (.inRegion ops [] :: k)) cs) w := g_ctl hD rfl (fun _ => stepGR_region_end) h
theorem r_block (hD : ∀ w, D w w #[]) {id : Nat} {c : Code} (h : ∀ w₁, R w w₁ → Goes P main R D Stop n (G (b.atR a (.code c :: .inBlock id :: k)) cs) w₁) : Goes P main R D Stop (n + 1) (G (b.atR a (.code (.block id c) :: k)) cs) w := g_ctl hD rfl (fun _ => stepGR_block) h
theorem r_inBlock (hD : ∀ w, D w w #[]) {id : Nat} (h : ∀ w₁, R w w₁ → Goes P main R D Stop n (G (b.atR a k) cs) w₁) : Goes P main R D Stop (n + 1) (G (b.atR a (.inBlock id :: k)) cs) w := g_ctl hD rfl (fun _ => stepGR_inBlock) h
theorem r_seq (hD : ∀ w, D w w #[]) {x y : Code} (h : ∀ w₁, R w w₁ → Goes P main R D Stop n (G (b.atR a (.code x :: .code y :: k)) cs) w₁) : Goes P main R D Stop (n + 1) (G (b.atR a (.code (.seq x y) :: k)) cs) w := g_ctl hD rfl (fun _ => stepGR_seq) h
end
def rnd (f : FuncId) (l : Nat) : Frame := Frame.round l f #[] .skip .skip .normal
theorem yield_op {P : Program} {a : Act} {w : World} {o : Oper} {y z : Operand} {ats : Array TypeId} {l : Nat} {r : Loop} {v : Value} {t : Tmp} (hop : o.op = .call { callee := .value y, args := #[z], argTypes := ats }) (hy : a.eval y = yieldV l) (hz : a.eval z = v)
   (hl : w.heap[l]? = some (.loop r)) (hp : r.params = #[t]) :
   (execOp a.eval o).run P w = .ok (.round l r.fn (r.tmps.setIfInBounds t v) r.assign r.body) w ∧ (execOp a.eval o).events P w #[] = #[⟨.obj l, false, false⟩] := by
 have hr := run_yield (P := P) (args := #[v]) hl (by simp [hp])
 have he := ev_yield (P := P) (args := #[v]) hl (by simp [hp])
 constructor
 · unfold execOp
   simp only [hop]
   simp [resolve, Deferred.ofValue, hy, hz, yieldV, invoke, callFunc, hr, hp]
 · unfold execOp
   simp only [hop]
   simp [resolve, Deferred.ofValue, hy, hz, yieldV, invoke, callFunc, he]
noncomputable def ops19 : Array Oper := cO (cI bdr16)
structure HTr (m : ChM) (v : Value) (T : Array Value) : Prop where
 size : T.size = 49
 t44 : T[44]? = some (.chan (some m.q.c0))
 t45 : T[45]? = some v
def AtSend (m : ChM) (own : Nat → Prop) (Given : Cells) (Fz : Nat → Prop) (kl e7 e8 e13 i : Nat) (v : Value) (g : Goroutine) (w : World) : Prop :=
 ∃ U T T' l d ci, ItC kl (yieldV l) m.xs.length i v U ∧ HTs m e7 e8 e13 T ∧ HTr m v T' ∧
   g = G ((rnd 16 l).atR ⟨T', []⟩ (.inRegion ops19 [2] :: [.inBlock 3])) ((base 32).at ⟨U, []⟩ (.inRegion ops32 [5, 6] :: k32) :: f16R T l d :: m.cs) ∧ RI m own Given Fz e7 e8 ci l d (rec16 T d .busy) w
section
variable {m : ChM} {own : Nat → Prop} {Given : Cells} {Fz : Nat → Prop} {p kl cap e7 e8 ci e13 l d i : Nat} {sa : Option Addr} {r r' : Loop} {v : Value} {w w₁ : World}
set_option maxRecDepth 100000 in
theorem to_send (g : CG m own Given Fz (m.q.nf + 1) e7 e8) {U T : Array Value} (hU : ItC kl (yieldV l) m.xs.length i v U) (hT : HTs m e7 e8 e13 T) (hF : RI m own Given Fz e7 e8 ci l d (rec16 T d .ready) w) :
   Goes Try.prog true (MR 66 m.q.Wg own Given) (MD m.q.Wg own Given Fz) (AtSend m own Given Fz kl e7 e8 e13 i v) 30 (G ((base 32).at ⟨U, []⟩ (.inRegion ops32 [5, 6] :: k32)) (f16R T l d :: m.cs)) w := by
 have hD : ∀ w, MD m.q.Wg own Given Fz w w #[] := fun w => Gua.idle w
 refine Goes.step rfl fun w₁ h₁ => ?_
 replace hF := hF.rely g h₁
 clear h₁
 have hy := yield_op (P := Try.prog) (a := ⟨U, []⟩) (w := w₁) (y := .tmp 9) (z := .tmp 13) (v := v) (t := 43) (o := { dst := some 14, op := .call { callee := .value (.tmp 9), args := #[.tmp 13], argTypes := #[3] }, type := 4, pos := "law.go:27", after := #[{ on := 0, ground := .data }, { on := 4, ground := .data }], guard := none })
   rfl (by simp [Act.eval, hU.t9]) (by simp [Act.eval, hU.t13]) hF.lp.rcd rfl
 rw [stepG_yield (o := { dst := some 14, op := .call { callee := .value (.tmp 9), args := #[.tmp 13], argTypes := #[3] }, type := 4, pos := "law.go:27", after := #[{ on := 0, ground := .data }, { on := 4, ground := .data }], guard := none }) rfl rfl (by decide) hy.1]
 simp only [goes_go]
 refine ⟨gua_look hF.lp.rcd fun e he => by have := mem_listed he; rw [hy.2] at this; simpa using this, ?_⟩
 rw [round_at]
 have key : ∀ T', T'.size = 49 → T'[43]? = some v → T'[7]? = some (ptr e7) → Goes Try.prog true (MR 66 m.q.Wg own Given) (MD m.q.Wg own Given Fz) (AtSend m own Given Fz kl e7 e8 e13 i v) 29
     (G ((rnd 16 l).atR ⟨T', []⟩ [.code asg16, .beginRound, .code bdr16]) ((base 32).at ⟨U, []⟩ (.inRegion ops32 [5, 6] :: k32) :: f16R T l d :: m.cs)) w₁ := by
   intro T' hs t43 t7
   have hfin : ∀ T' w, HTr m v T' → RI m own Given Fz e7 e8 ci l d (rec16 T d .busy) w → AtSend m own Given Fz kl e7 e8 e13 i v (G ((rnd 16 l).atR ⟨T', []⟩ (.inRegion ops19 [2] :: [.inBlock 3])) ((base 32).at ⟨U, []⟩ (.inRegion ops32 [5, 6] :: k32) :: f16R T l d :: m.cs)) w := fun T' w h1 h2 => ⟨U, T, T', l, d, ci, hU, hT, h1, rfl, h2⟩
   generalize AtSend m own Given Fz kl e7 e8 e13 i v = Stop at hfin ⊢
   replace hfin := Hd.mk hfin
   obtain ⟨v0, v1, v2, v3, v4, v5, v6, v7, v8, v9, v10, v11, v12, v13, v14, v15, v16, v17, v18, v19, v20, v21, v22, v23, v24, v25, v26, v27, v28, v29, v30, v31, v32, v33, v34, v35, v36, v37, v38, v39, v40, v41, v42, v43, v44, v45, v46, v47, v48, rfl⟩ := array49 T' hs
   simp only [List.getElem?_toArray, List.getElem?_cons_zero, List.getElem?_cons_succ, Option.some.injEq] at t43 t7
   subst t43 t7
   clear hs hy
   generalize (base 32).at ⟨U, []⟩ (.inRegion ops32 [5, 6] :: k32) :: f16R T l d :: m.cs = cs at hfin ⊢
   clear hU hT
   have rl : ∀ {w w₁ : World}, RI m own Given Fz e7 e8 ci l d (rec16 T d .ready) w → MR 66 m.q.Wg own Given w w₁ → RI m own Given Fz e7 e8 ci l d (rec16 T d .ready) w₁ := fun h r => h.rely g r
   simp only [asg16, bdr16, rng16, tl16, cS, cF, cI, body16, Try.f16, Option.getD_some]
   refine r_reg hD fun _ h₁ => ?_
   replace hF := rl hF h₁
   clear h₁
   simp only [List.size_toArray, List.length_cons, List.length_nil, Nat.zero_add, List.range, List.range.loop]
   refine Goes.step rfl fun _ h₁ => ?_
   replace hF := rl hF h₁
   clear h₁
   refine goes_operR_k rfl rfl (by intro c; simp) (by intro h; cases h) (fun K hK => ?_)
   go_simp
   refine hK _ _ ⟨?_, ?_⟩
   · refine g_idle hD ?_
     intro e he
     have hm := mem_listed he
     simp [go_sem, *] at hm
   clear hK K
   refine r_regE hD fun _ h₁ => ?_
   replace hF := rl hF h₁
   clear h₁
   refine Goes.step rfl fun _ h₁ => ?_
   replace hF := rl hF h₁
   clear h₁
   rw [stepG_beginRound rfl hF.lp.rcd rfl rfl]
   simp only [goes_go]
   refine ⟨gua_put hF.lp.rcd (fun o => ⟨hF.lp.ol.1, hF.lp.ol.2.1 o, hF.lp.ol.2.2.1⟩) (fun e he => seen_obj he), ?_⟩
   replace hF := hF.put (r' := rec16 T d .busy)
   clear rl
   have rlb : ∀ {w w₁ : World}, RI m own Given Fz e7 e8 ci l d (rec16 T d .busy) w → MR 66 m.q.Wg own Given w w₁ → RI m own Given Fz e7 e8 ci l d (rec16 T d .busy) w₁ := fun h r => h.rely g r
   refine r_block hD fun _ h₁ => ?_
   replace hF := rlb hF h₁
   clear h₁
   refine r_reg hD fun _ h₁ => ?_
   replace hF := rlb hF h₁
   clear h₁
   simp only [List.size_toArray, List.length_cons, List.length_nil, Nat.reduceAdd, Nat.zero_add, List.range, List.range.loop]
   refine Goes.step rfl fun _ h₁ => ?_
   replace hF := rlb hF h₁
   clear h₁
   refine goes_operR_k rfl rfl (by intro c; simp) (by intro h; cases h) (fun K hK => ?_)
   have h1 := hF.cw.c7
   go_simp
   refine hK _ _ ⟨gua_read fun e he => ?_, ?_⟩
   · have hm := mem_listed he
     simp [go_sem, h1] at hm
     exact ⟨_, hm, cell_lt h1, .inr ⟨g.o7.1, g.o7.2 0⟩⟩
   clear hK K h1
   refine Goes.step rfl fun _ h₁ => ?_
   replace hF := rlb hF h₁
   clear h₁
   refine goes_operR_k rfl rfl (by intro c; simp) (by intro h; cases h) (fun K hK => ?_)
   go_simp
   refine hK _ _ ⟨?_, ?_⟩
   · refine g_idle hD ?_
     intro e he
     have hm := mem_listed he
     simp [go_sem, *] at hm
   clear hK K
   exact Goes.stop fun w₁ h₁ => hfin.out _ _ ⟨rfl, rfl, rfl⟩ (rlb hF h₁)
 refine key _ (by show (T.setIfInBounds 43 v).size = 49; simp [hT.size]) (by show (T.setIfInBounds 43 v)[43]? = some v; simp [hT.size]) ?_
 show (T.setIfInBounds 43 v)[7]? = _
 rw [Array.getElem?_setIfInBounds_ne (by omega)]
 exact hT.t7
theorem iter_more (hm : ChMOK m) (hi : ItOK m kl sa cap) (g : CG m own Given Fz (m.q.nf + 1) e7 e8) (hv : m.xs[i]? = some v) {gg : Goroutine} (h : AtIter m own Given Fz kl e7 e8 e13 i gg w) :
   MGoo Try.prog 66 m.q.Wg own Given Fz (AtSend m own Given Fz kl e7 e8 e13 i v) 70 gg w := by
 obtain ⟨U, T, l, d, ci, hU, hT, rfl, hF⟩ := h
 have hlen : m.xs.length < 1000000 := by have := hm.xs.1; have := hm.q.small; omega
 refine Goo.mono (Goo.on (MR.refl' _) (n := 30) (m := 30) (it_more (F := RI m own Given Fz e7 e8 ci l d (rec16 T d .ready)) (kl := kl) (cap := cap) (sa := sa) (xs := m.xs) hF (fun h r => h.rely g r) (fun w h => h.cw.it hm g hi) hU hlen hv fun U' w' hF' hU' => ?_)) (by omega)
 exact Goo.of_goes (to_send g hU' hT hF')
theorem send_back (hm : ChMOK m) (g : CG m own Given Fz (m.q.nf + 1) e7 e8) (hi : i < m.xs.length) {U T T' : Array Value} (hU : ItC kl (yieldV l) m.xs.length i v U) (hT : HTs m e7 e8 e13 T) (hF : RI m own Given Fz e7 e8 ci l d (rec16 T d .busy) w) :
   MGoo Try.prog 66 m.q.Wg own Given Fz (AtIter m own Given Fz kl e7 e8 e13 (i + 1)) 40 (G ((rnd 16 l).atR ⟨T', []⟩ (.inRegion ops19 [] :: [.inBlock 3])) ((base 32).at ⟨U, []⟩ (.inRegion ops32 [5, 6] :: k32) :: f16R T l d :: m.cs)) w := by
 have hD : ∀ w, MD m.q.Wg own Given Fz w w #[] := fun w => Gua.idle w
 have rlb : ∀ {w w₁ : World}, RI m own Given Fz e7 e8 ci l d (rec16 T d .busy) w → MR 66 m.q.Wg own Given w w₁ → RI m own Given Fz e7 e8 ci l d (rec16 T d .busy) w₁ := fun h r => h.rely g r
 have hlen : m.xs.length < 1000000 := by have := hm.xs.1; have := hm.q.small; omega
 refine Goo.of_goes (n := 40) ?_
 refine r_regE hD fun _ h₁ => ?_
 replace hF := rlb hF h₁
 clear h₁
 refine r_inBlock hD fun _ h₁ => ?_
 replace hF := rlb hF h₁
 clear h₁
 refine Goes.step rfl fun _ h₁ => ?_
 replace hF := rlb hF h₁
 clear h₁
 rw [stepG_round_end rfl hF.lp.rcd rfl]
 simp only [goes_go]
 refine ⟨gua_put hF.lp.rcd (fun o => ⟨hF.lp.ol.1, hF.lp.ol.2.1 o, hF.lp.ol.2.2.1⟩) (fun e he => seen_obj he), ?_⟩
 replace hF := hF.put (r' := rec16 T d .ready)
 refine Goes.mono (n := 20) (it_next (F := RI m own Given Fz e7 e8 ci l d (rec16 T d .ready)) (kl := kl) (xs := m.xs) hF (fun h r => h.rely g r) hU.u hi hlen fun U' w' hF' hU' => ?_) (by omega)
 exact ⟨U', T, l, d, ci, hU', hT, rfl, hF'⟩
/-! ### the end of the range; the close; the wait -/
noncomputable def ops20 : Array Oper := cO (cF (tl16 10))
noncomputable def ops21 : Array Oper := cO (cF (tl16 11))
def markD (d : Nat) : List Deferred := [{ target := .collected d, args := #[] }]
structure RE (m : ChM) (own : Nat → Prop) (Given : Cells) (Fz : Nat → Prop) (e7 e8 ci l d : Nat) (w : World) : Prop where
 ri : ∃ r, RI m own Given Fz e7 e8 ci l d r w
theorem RE.rely (g : CG m own Given Fz (m.q.nf + 1) e7 e8) (h : RE m own Given Fz e7 e8 ci l d w) (q : MR 66 m.q.Wg own Given w w₁) : RE m own Given Fz e7 e8 ci l d w₁ := let ⟨r, h⟩ := h.ri; ⟨r, h.rely g q⟩
def AtShut (m : ChM) (own : Nat → Prop) (Given : Cells) (Fz : Nat → Prop) (e7 e8 e13 : Nat) (g : Goroutine) (w : World) : Prop :=
 ∃ T l d ci, HTs m e7 e8 e13 T ∧ T[46]? = some (.chan (some m.q.c0)) ∧ g = G ((base 16).at ⟨T, markD d⟩ (.inRegion ops20 [1] :: [.code (tl16 11)])) m.cs ∧ RE m own Given Fz e7 e8 ci l d w
set_option maxRecDepth 100000 in
theorem to_shut (g : CG m own Given Fz (m.q.nf + 1) e7 e8) {T : Array Value} (hT : HTs m e7 e8 e13 T) (hF : RI m own Given Fz e7 e8 ci l d r w) (hr : r.state ≠ .busy) (hp : r.pending = none) :
   Goes Try.prog true (MR 66 m.q.Wg own Given) (MD m.q.Wg own Given Fz) (AtShut m own Given Fz e7 e8 e13) 30 (G ((base 16).at ⟨T, markD d⟩ (.endRangeFunc l :: [.inBlock 2, .code (tl16 10)])) m.cs) w := by
 have hD : ∀ w, MD m.q.Wg own Given Fz w w #[] := fun w => Gua.idle w
 refine Goes.step rfl fun _ h₁ => ?_
 replace hF := hF.rely g h₁
 clear h₁
 rw [stepG_endRangeFunc hF.lp.rcd hr hp]
 simp only [goes_go]
 refine ⟨gua_put hF.lp.rcd (fun o => ⟨hF.lp.ol.1, hF.lp.ol.2.1 o, hF.lp.ol.2.2.1⟩) (fun e he => seen_obj he), ?_⟩
 replace hF : RE m own Given Fz e7 e8 ci l d _ := ⟨_, hF.put (r' := { r with state := .exhausted })⟩
 have rl : ∀ {w w₁ : World}, RE m own Given Fz e7 e8 ci l d w → MR 66 m.q.Wg own Given w w₁ → RE m own Given Fz e7 e8 ci l d w₁ := fun h r => h.rely g r
 have hfin : ∀ T w, HTs m e7 e8 e13 T → T[46]? = some (.chan (some m.q.c0)) → RE m own Given Fz e7 e8 ci l d w → AtShut m own Given Fz e7 e8 e13 (G ((base 16).at ⟨T, markD d⟩ (.inRegion ops20 [1] :: [.code (tl16 11)])) m.cs) w := fun T w h1 h2 h3 => ⟨T, l, d, ci, h1, h2, rfl, h3⟩
 generalize AtShut m own Given Fz e7 e8 e13 = Stop at hfin ⊢
 replace hfin := Hd.mk hfin
 clear hr hp
 obtain ⟨hs, t0, t6, t7, t8, t13, l13⟩ := hT
 obtain ⟨v0, v1, v2, v3, v4, v5, v6, v7, v8, v9, v10, v11, v12, v13, v14, v15, v16, v17, v18, v19, v20, v21, v22, v23, v24, v25, v26, v27, v28, v29, v30, v31, v32, v33, v34, v35, v36, v37, v38, v39, v40, v41, v42, v43, v44, v45, v46, v47, v48, rfl⟩ := array49 T hs
 simp only [List.getElem?_toArray, List.getElem?_cons_zero, List.getElem?_cons_succ, Option.some.injEq] at t0 t6 t7 t8 t13
 subst t0 t6 t7 t8 t13
 clear hs
 simp only [tl16, cS, body16, Try.f16, Option.getD_some]
 repeat ((first | ((with_reducible refine g_opG ?_); first | (refine g_unw hD rfl rfl ?_; intro _ h₁; replace hF := rl hF h₁; clear h₁; walk_nrm) | (refine Goes.step rfl ?_; intro _ h₁; replace hF := rl hF h₁; clear h₁; refine goes_oper_k rfl rfl (by k_ne) fun K hK => ?_; go_simp; refine hK _ _ ⟨g_idle hD fun e he => by have hm := mem_listed he; simp [go_sem, *] at hm, ?_⟩; clear hK K; try w_num)) | ((first | ((with_reducible refine g_c (k' := ?_) true true hD ?_ ?_); rotate_left; focus exact rfl) | with_reducible refine g_r hD rfl ?_); intro _ h₁; replace hF := rl hF h₁; clear h₁)))
 (refine Goes.step rfl (fun _ h₁ => ?_); replace hF := rl hF h₁; clear h₁)
 refine goes_oper_k rfl rfl (by decide) (fun K hK => ?_)
 obtain ⟨r', hri⟩ := hF.ri
 have h1 := hri.cw.c7
 go_simp
 refine hK _ _ ⟨gua_read fun e he => ?_, ?_⟩
 · have hm := mem_listed he
   simp [go_sem, h1] at hm
   exact ⟨_, hm, cell_lt h1, .inr ⟨g.o7.1, g.o7.2 0⟩⟩
 clear hK K h1 hri r'
 try walk_nrm
 exact Goes.stop fun w₁ h₁ => hfin.out _ _ ⟨rfl, rfl, rfl, rfl, rfl, rfl, l13⟩ rfl (rl hF h₁)
theorem iter_done (_hm : ChMOK m) (g : CG m own Given Fz (m.q.nf + 1) e7 e8) {gg : Goroutine} (h : AtIter m own Given Fz kl e7 e8 e13 m.xs.length gg w) :
   MGoo Try.prog 66 m.q.Wg own Given Fz (AtShut m own Given Fz e7 e8 e13) 60 gg w := by
 obtain ⟨U, T, l, d, ci, hU, hT, rfl, hF⟩ := h
 refine Goo.mono (Goo.on (MR.refl' _) (n := 20) (m := 30) (it_done (F := RI m own Given Fz e7 e8 ci l d (rec16 T d .ready)) hF (fun h r => h.rely g r) hU fun w' hF' => ?_)) (by omega)
 exact Goo.of_goes (to_shut g hT hF' (by simp [rec16]) rfl)
theorem shut_op {P : Program} {a : Act} {w : World} {o : Oper} {y : Tmp} {ats : Array TypeId} {c cap s r : Nat} {buf : Array Value} {tm : Bool} (hop : o.op = .call { callee := .builtin .close, args := #[.tmp y], argTypes := ats }) (hy : a.eval (.tmp y) = .chan (some c))
   (hc : w.heap[c]? = some (.chan cap buf false s r tm)) :
   (execOp a.eval o).run P w = .ok (.value (.tuple #[])) (w.setChan c cap buf true s r tm) ∧ (execOp a.eval o).events P w #[] = closeEvents c := by
 have hy' := hy
 simp only [Act.eval, Array.getD_eq_getD_getElem?] at hy'
 constructor
 · unfold execOp
   simp only [hop]
   simp [go_sem, resolve, invoke, hy', run_close_open _ _ hc, World.setChan]
 · unfold execOp
   simp only [hop]
   simp [go_sem, resolve, invoke, hy', events_close_open _ _ hc, closeEvents]
theorem RE.chan (hm : ChMOK m) {k : Nat} (h : RE m own Given Fz e7 e8 ci l d w) (hc : w.heap[m.q.c0]? = some (.chan 0 #[] false k k false)) : RE m own Given Fz e7 e8 ci l d (w.setChan m.q.c0 0 #[] true k k false) := by
 obtain ⟨r, h⟩ := h.ri
 have e : w.setChan m.q.c0 0 #[] true k k false = w.putObj m.q.c0 (.chan 0 #[] true k k false) := rfl
 rw [e]
 have hne : ∀ b o, w.heap[b]? = some o → (∀ x y z u v t, o ≠ Obj.chan x y z u v t) → (w.putObj m.q.c0 (.chan 0 #[] true k k false)).heap[b]? = some o := fun b o hb hn => (World.putObj_heap_other fun e => by
   rw [e, hc] at hb
   exact hn _ _ _ _ _ _ (Option.some.inj hb).symm).trans hb
 exact ⟨r, h.cw.put hm.c0 hc (fun _ _ _ e => by cases e) (by omega), ⟨h.lp.ol, h.lp.od, hne _ _ h.lp.rcd (fun _ _ _ _ _ _ e => by cases e), hne _ _ h.lp.dfr (fun _ _ _ _ _ _ e => by cases e)⟩⟩
theorem fits_RE (g : CG m own Given Fz (m.q.nf + 1) e7 e8) : Fits 66 m.q.Wg (MR 66 m.q.Wg own Given) (MD m.q.Wg own Given Fz) (RE m own Given Fz e7 e8 ci l d) :=
 fits_main g.wg fun _ _ r h => RE.rely g h r
def AtWait (m : ChM) (own : Nat → Prop) (Given : Cells) (Fz : Nat → Prop) (e7 e8 e13 : Nat) (g : Goroutine) (w : World) : Prop :=
 ∃ T l d ci, HTs m e7 e8 e13 T ∧ WKd Try.prog Try.link m.q.Wg (MR 66 m.q.Wg own Given) (MD m.q.Wg own Given Fz) (RE m own Given Fz e7 e8 ci l d) ((base 16).at ⟨T, markD d⟩ (.inRegion ops21 [0] :: [.code (tl16 12)]) :: m.cs) g w
set_option maxRecDepth 100000 in
theorem to_wait (g : CG m own Given Fz (m.q.nf + 1) e7 e8) {T : Array Value} (hT : HTs m e7 e8 e13 T) (hF : RE m own Given Fz e7 e8 ci l d w) :
   MGoo Try.prog 66 m.q.Wg own Given Fz (AtWait m own Given Fz e7 e8 e13) 20 (G ((base 16).at ⟨T, markD d⟩ (.inRegion ops20 [] :: [.code (tl16 11)])) m.cs) w := by
 have hD : ∀ w, MD m.q.Wg own Given Fz w w #[] := fun w => Gua.idle w
 have rl : ∀ {w w₁ : World}, RE m own Given Fz e7 e8 ci l d w → MR 66 m.q.Wg own Given w w₁ → RE m own Given Fz e7 e8 ci l d w₁ := fun h r => h.rely g r
 have hfin : ∀ T g' w, HTs m e7 e8 e13 T → WKd Try.prog Try.link m.q.Wg (MR 66 m.q.Wg own Given) (MD m.q.Wg own Given Fz) (RE m own Given Fz e7 e8 ci l d) ((base 16).at ⟨T, markD d⟩ (.inRegion ops21 [0] :: [.code (tl16 12)]) :: m.cs) g' w → AtWait m own Given Fz e7 e8 e13 g' w := fun T g' w h1 h2 => ⟨T, l, d, ci, h1, h2⟩
 generalize AtWait m own Given Fz e7 e8 e13 = Stop at hfin ⊢
 replace hfin := Hd.mk hfin
 obtain ⟨hs, t0, t6, t7, t8, t13, l13⟩ := hT
 obtain ⟨v0, v1, v2, v3, v4, v5, v6, v7, v8, v9, v10, v11, v12, v13, v14, v15, v16, v17, v18, v19, v20, v21, v22, v23, v24, v25, v26, v27, v28, v29, v30, v31, v32, v33, v34, v35, v36, v37, v38, v39, v40, v41, v42, v43, v44, v45, v46, v47, v48, rfl⟩ := array49 T hs
 simp only [List.getElem?_toArray, List.getElem?_cons_zero, List.getElem?_cons_succ, Option.some.injEq] at t0 t6 t7 t8 t13
 subst t0 t6 t7 t8 t13
 clear hs
 simp only [ops20, tl16, cS, cF, cO, body16, Try.f16, Option.getD_some]
 refine Goo.on (MR.refl' _) (n := 8) (m := 12) ?_
 repeat ((first | ((first | ((with_reducible refine g_c (k' := ?_) true true hD ?_ ?_); rotate_left; focus exact rfl) | with_reducible refine g_r hD rfl ?_); intro _ h₁; replace hF := rl hF h₁; clear h₁)))
 (refine Goes.step rfl (fun _ h₁ => ?_); replace hF := rl hF h₁; clear h₁)
 refine goes_call rfl rfl (by k_ne) rfl (Try.wgLib.f_wait) (nm_wait Try.link) (c := body_wait Try.link) rfl ⟨by exact hD _, ?_⟩
 walk_nrmf waitFn
 refine Goes.stop fun w₁ h₁ => ?_
 replace hF := rl hF h₁
 have hlive : WgLive 66 m.q.Wg w₁ := let ⟨_, h⟩ := hF.ri; h.cw.live
 refine Goo.mono (n := 3) (Goo.imp ?_ (Goo.of_goes (wg_wait Try.wgLib (fits_RE g) w₁ ⟨hF, hlive⟩))) (by decide)
 intro g' w' h
 exact hfin.out _ _ _ ⟨rfl, rfl, rfl, rfl, rfl, rfl, l13⟩ h
end
end Go.Proofs.Ytblpmdolclalnaa
namespace Go.Proofs.Ytblpmdolclalnaa
open Go.Conc
open Go.ConcR (WgAt KK stA smA rd wr mk DC0)
open Go.ConcN (WgLive)
def MainC (m : ChM) (own : Nat → Prop) (me : ME) (Given : Cells) (Fz : Nat → Prop) (g : Goroutine) (w : World) : Prop := match me with
 | (.hire p ci co env, en) => en = [] ∧ ((p < m.q.nf ∧ HireF m own Given Fz p ci co env g w) ∨ (p = m.q.nf ∧ co = 0 ∧ HireS m own Given Fz ci env g w))
 | (.send sent v, en) => ∃ kl sa cap e7 e8 e13 i, ItOK m kl sa cap ∧ en = [e8, e13] ∧ sent = m.xs.take i ∧ m.xs[i]? = some v ∧ CG m own Given Fz (m.q.nf + 1) e7 e8 ∧ AtSend m own Given Fz kl e7 e8 e13 i v g w
 | (.shut sent, en) => ∃ e7 e8 e13, en = [e8, e13] ∧ sent = m.xs ∧ CG m own Given Fz (m.q.nf + 1) e7 e8 ∧ AtShut m own Given Fz e7 e8 e13 g w
 | (.wait sent, en) => ∃ e7 e8 e13, en = [e8, e13] ∧ sent = m.xs ∧ CG m own Given Fz (m.q.nf + 1) e7 e8 ∧ AtWait m own Given Fz e7 e8 e13 g w
def AnchC (m : ChM) (own : Nat → Prop) (me : ME) (Given : Cells) (Fz : Nat → Prop) (g : Goroutine) (w : World) : Prop := match me with
 | (.wait sent, en) => ∃ e7 e8 e13 T l d ci, en = [e8, e13] ∧ sent = m.xs ∧ CG m own Given Fz (m.q.nf + 1) e7 e8 ∧ HTs m e7 e8 e13 T ∧ WAnch Try.link m.q.Wg (RE m own Given Fz e7 e8 ci l d) ((base 16).at ⟨T, markD d⟩ (.inRegion ops21 [0] :: [.code (tl16 12)]) :: m.cs) g w
 | _ => False
def AfterC (m : ChM) (me : ME) (g : Goroutine) (w : World) : Prop := match me with
 | (.wait sent, en) => ∃ own Given Fz e7 e8 e13 T l d ci, en = [e8, e13] ∧ sent = m.xs ∧ CG m own Given Fz (m.q.nf + 1) e7 e8 ∧ HTs m e7 e8 e13 T ∧ RE m own Given Fz e7 e8 ci l d w ∧
     ∀ Shun, Goes Try.prog true AtRel (SD Shun) (fun g w' => g = G ((base 16).at ⟨T.setIfInBounds 47 (.tuple #[]), markD d⟩ (.inRegion ops21 [] :: [.code (tl16 12)])) m.cs ∧ AtRel w w') 20 g w
 | _ => False
def giveC (m : ChM) : MS → Cells
 | .hire p _ _ env => if p < m.q.nf then m.gv p else match env with | [_, e13] => fun b y => b = e13 ∧ y = 0 | _ => fun _ _ => False
 | _ => fun _ _ => False
def readC (m : ChM) : MS → Nat → Prop
 | .hire p _ _ env => if p < m.q.nf then fun b => b ∈ env ∨ m.rdx p b else match env with | [e8, _] => fun b => b = e8 | _ => fun _ => False
 | _ => fun _ => False
def fleshC (m : ChM) : Flesh where
 zero := .int .i64 0
 give := giveC m
 reads := readC m
 gift := noGift
 msg := fun _ _ => True
 Fin := m.q.Fin
 fuel := m.q.nfuel + 500
 Kid := m.q.Kid
 Main := MainC m
 Anch := AnchC m
 After := AfterC m
theorem fleshC_ok (m : ChM) : FleshC m.q (fleshC m) := ⟨rfl, rfl, rfl, rfl, rfl, by show m.q.nfuel + 200 ≤ m.q.nfuel + 500; omega⟩
section
variable {m : ChM} {own : Nat → Prop} {Given : Cells} {Fz : Nat → Prop} {p kl cap e7 e8 ci e13 l d i : Nat} {sa : Option Addr} {w w₁ : World} {g : Goroutine} {me : ME}
abbrev netC (m : ChM) : Net := m.q.pp.net (fleshC m)
theorem head_any (hm : ChMOK m) (hg : CG m own Given Fz p e7 e8) (hp : p ≤ m.q.nf) (h : AtHead m Given Fz p e7 e8 ci g w) :
   MGoo Try.prog 66 m.q.Wg own Given Fz (fun g w => ∃ co env, (p < m.q.nf → ci < co) ∧ MainC m own (.hire p ci co env, []) Given Fz g w) 100 g w := by
 obtain ⟨T, hT, rfl, hF⟩ := h
 obtain ⟨hs, t0, t6, t7, t8, t28, t29, t30⟩ := hT
 obtain ⟨v0, v1, v2, v3, v4, v5, v6, v7, v8, v9, v10, v11, v12, v13, v14, v15, v16, v17, v18, v19, v20, v21, v22, v23, v24, v25, v26, v27, v28, v29, v30, v31, v32, v33, v34, v35, v36, v37, v38, v39, v40, v41, v42, v43, v44, v45, v46, v47, v48, rfl⟩ := array49 T hs
 simp only [List.getElem?_toArray, List.getElem?_cons_zero, List.getElem?_cons_succ, Option.some.injEq] at t0 t6 t7 t8 t28 t29 t30
 subst t0 t6 t7 t8 t28 t29 t30
 rcases Nat.lt_or_ge p m.q.nf with hlt | hge
 · refine head_fwd hm hg hlt hF fun g w co env h => ⟨co, env, fun _ => ?_, rfl, .inl ⟨hlt, h⟩⟩
   obtain ⟨_, _, _, _, _, _, _, _, _, _, h5, _⟩ := h
   exact h5
 · obtain rfl : p = m.q.nf := by omega
   exact head_snk hg hF fun g w env h => ⟨0, env, fun h => by omega, rfl, .inr ⟨rfl, rfl, h⟩⟩
theorem iter_any (hm : ChMOK m) (hi : ItOK m kl sa cap) (hg : CG m own Given Fz (m.q.nf + 1) e7 e8) (hle : i ≤ m.xs.length) (h : AtIter m own Given Fz kl e7 e8 e13 i g w) :
   MGoo Try.prog 66 m.q.Wg own Given Fz (fun g w => ∃ ms, m.q.pp.begun (m.xs.take i) ms ∧ MainC m own (ms, [e8, e13]) Given Fz g w) 70 g w := by
 rcases Nat.lt_or_ge i m.xs.length with hlt | hge
 · have hv : m.xs[i]? = some m.xs[i] := List.getElem?_eq_getElem hlt
   refine (iter_more hm hi hg hv h).imp fun g w h => ⟨.send (m.xs.take i) m.xs[i], .inl ⟨_, rfl, hm.xs.2 _ (List.getElem_mem _), ?_⟩, kl, sa, cap, e7, e8, e13, i, hi, rfl, rfl, hv, hg, h⟩
   have := hm.xs.1
   have e : m.q.pp.n = m.q.n := rfl
   simp only [List.length_take]
   omega
 · obtain rfl : i = m.xs.length := by omega
   exact ((iter_done hm hg h).imp fun g w h => ⟨.shut (m.xs.take m.xs.length), .inr rfl, e7, e8, e13, rfl, List.take_length, hg, h⟩).mono (by omega)
end
end Go.Proofs.Ytblpmdolclalnaa
