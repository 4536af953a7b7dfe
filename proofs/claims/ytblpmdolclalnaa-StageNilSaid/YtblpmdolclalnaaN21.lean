/- Map[int,int]: the call's phase, from ahead of the loop over the workers to the end of Wait. Made by mp.py. Map[int,int]: behind Wait: the loop that collects the values; the return. Made by mp.py. Map[int,int]: the collecting loop whole; the call's beginning. Made by mp.py. Map[int,int]: a call by goroutine 0, whole; the calls that are refused. Made by mp.py. -/
import Derived.Test.YtblpmdolclalnaaN20
set_option maxHeartbeats 16000000
set_option linter.unusedSimpArgs false
set_option linter.unusedVariables false
namespace Go.Proofs.Ytblpmdolclalnaa
open Go.Conc Go.RowKit Go.Conc.Lib Go.ConcR.Gen Go.ConcN.Gen
open Go.ConcR (WgAt KK stA smA rd wr mk DC0)
open Go.ConcN (WgLive)
structure HTk (m : MpM) (T : Array Value) : Prop where
 size : T.size = 64
 t0 : T[0]? = some (.int .i64 m.q.K)
 t2 : T[2]? = some m.inV
 t4 : T[4]? = some (ptr m.e4)
 t8 : T[8]? = some (ptr m.e8)
 t9 : T[9]? = some (ptr m.q.Wg)
structure MW0 (m : MpM) (w : World) : Prop where
 wg : WgAt 66 m.q.Wg w 0 0
 c8 : w.cell? ⟨m.e8, 0, none⟩ = some (.chan (some m.q.c0))
 c4 : w.cell? ⟨m.e4, 0, none⟩ = some m.q.fv
 b8 : ∃ cs : Array Value, w.heap[m.e8]? = some (.cells cs 58 (0, 0))
 b4 : ∃ cs : Array Value, w.heap[m.e4]? = some (.cells cs 28 (0, 0))
 ch0 : w.heap[m.q.c0]? = some (.chan 0 #[] false 0 0 false)
 out : Out m.n0 m.w0 (fun b _ => m.Shun b) w
 low : m.e8 ≠ m.q.Wg ∧ m.e4 ≠ m.q.Wg ∧ m.q.c0 ≠ m.q.Wg
 shun : ∀ b, m.Shun b → b < m.n0
section
variable {m : MpM} {own : Nat → Prop} {w w₁ : World}
theorem mg_zero (h : MW0 m w) (ho : ∀ b, b < w.heap.size → own b) (hm : MpMOK m) : MG m own (Gv0 m.Shun m.q.Wg w.heap.size) (fun _ => False) 0 where
 outer b hb := ho b (Nat.lt_of_lt_of_le hb h.out.size)
 given b x hb hx := hx.2.elim id fun e => by have := hm.wg; omega
 wg x := ⟨(Array.getElem?_eq_some_iff.1 h.wg).1, .inr rfl⟩
 o8 := ⟨ho _ (cell_lt h.c8), fun x hx => hx.2.elim (fun hs => by have := h.shun _ hs; have := hm.e8; omega) h.low.1⟩
 o4 := ⟨ho _ (cell_lt h.c4), fun x hx => hx.2.elim (fun hs => by have := h.shun _ hs; have := hm.e4; omega) h.low.2.1⟩
 c0 _ := ⟨ho _ (Array.getElem?_eq_some_iff.1 h.ch0).1, fun x hx => hx.2.elim (fun hs => by have := h.shun _ hs; have := hm.c0; omega) h.low.2.2, fun hx => hx⟩
theorem mw_zero (h : MW0 m w) : MW m (Gv0 m.Shun m.q.Wg w.heap.size) (fun _ => False) 0 w where
 live := ⟨_, _, h.wg⟩
 c8 := h.c8
 c4 := h.c4
 b8 := h.b8
 b4 := h.b4
 out := h.out.less fun _b _x hb hx => ⟨Nat.lt_of_lt_of_le hb h.out.size, .inl hx⟩
 gsz _b _x hx := hx.1
 fsz _b hx := hx.elim
 ch0 _ := h.ch0
set_option maxRecDepth 100000 in
theorem to_headJ {Given : Cells} {Fz : Nat → Prop} (g : MG m own Given Fz 0) {T : Array Value} (hT : HTk m T) (hF : MW m Given Fz 0 w) :
   MGoo Try.prog 66 m.q.Wg own Given Fz (AtHeadJ m Given Fz 0) 20 (G ((base 11).at ⟨T, []⟩ [.code (tlM 4)]) m.cs) w := by
 have hD : ∀ w, MD m.q.Wg own Given Fz w w #[] := fun w => Gua.idle w
 have rl : ∀ {w w₁ : World}, MW m Given Fz 0 w → MR 66 m.q.Wg own Given w w₁ → MW m Given Fz 0 w₁ := fun h r => h.rely g r
 have hfin : ∀ T w, HTw m 0 T → MW m Given Fz 0 w → AtHeadJ m Given Fz 0 (G ((base 11).at ⟨T, []⟩ (.code lpM :: .inLoop lpM :: .inBlock 0 :: [.code (tlM 5)])) m.cs) w := fun T w h1 h2 => ⟨T, h1, rfl, h2⟩
 generalize AtHeadJ m Given Fz 0 = Stop at hfin ⊢
 replace hfin := Hd.mk hfin
 obtain ⟨hs, t0, t2, t4, t8, t9⟩ := hT
 obtain ⟨v0, v1, v2, v3, v4, v5, v6, v7, v8, v9, v10, v11, v12, v13, v14, v15, v16, v17, v18, v19, v20, v21, v22, v23, v24, v25, v26, v27, v28, v29, v30, v31, v32, v33, v34, v35, v36, v37, v38, v39, v40, v41, v42, v43, v44, v45, v46, v47, v48, v49, v50, v51, v52, v53, v54, v55, v56, v57, v58, v59, v60, v61, v62, v63, rfl⟩ := array64 T hs
 simp only [List.getElem?_toArray, List.getElem?_cons_zero, List.getElem?_cons_succ, Option.some.injEq] at t0 t2 t4 t8 t9
 subst t0 t2 t4 t8 t9
 clear hs
 simp only [tlM, lpM, cS, cF, cI, bodyM, Try.f11, Option.getD_some] at hfin ⊢
 refine Goo.of_goes (n := 20) ?_
 repeat ((first | ((with_reducible refine g_opG ?_); first | (refine g_unw hD rfl rfl ?_; intro _ h₁; replace hF := rl hF h₁; clear h₁; walk_nrm) | (refine Goes.step rfl ?_; intro _ h₁; replace hF := rl hF h₁; clear h₁; refine goes_oper_k rfl rfl (by k_ne) fun K hK => ?_; go_simp; refine hK _ _ ⟨g_idle hD fun e he => by have hm := mem_listed he; simp [go_sem, *] at hm, ?_⟩; clear hK K; try w_num)) | ((first | ((with_reducible refine g_c (k' := ?_) true false hD ?_ ?_); rotate_left; focus exact rfl) | with_reducible refine g_r hD rfl ?_); intro _ h₁; replace hF := rl hF h₁; clear h₁)))
 (first | ((with_reducible refine g_opG ?_); first | (refine g_unw hD rfl rfl ?_; intro _ h₁; replace hF := rl hF h₁; clear h₁; walk_nrm) | (refine Goes.step rfl ?_; intro _ h₁; replace hF := rl hF h₁; clear h₁; refine goes_oper_k rfl rfl (by k_ne) fun K hK => ?_; go_simp; refine hK _ _ ⟨g_idle hD fun e he => by have hm := mem_listed he; simp [go_sem, *] at hm, ?_⟩; clear hK K; try w_num)) | ((first | ((with_reducible refine g_c (k' := ?_) true true hD ?_ ?_); rotate_left; focus exact rfl) | with_reducible refine g_r hD rfl ?_); intro _ h₁; replace hF := rl hF h₁; clear h₁))
 exact Goes.stop fun w₁ h₁ => hfin.out _ _ ⟨rfl, rfl, rfl, rfl, rfl, rfl, rfl⟩ (rl hF h₁)
theorem begin_netJ (hm : MpMOK m) (h : MW0 m w) {T : Array Value} (hT : HTk m T) (ho : ∀ b, b < w.heap.size → own b) :
   MGoo Try.prog 66 m.q.Wg own (Gv0 m.Shun m.q.Wg w.heap.size) (fun _ => False) (fun g w' => ∃ me, me = (MS.hire 0 m.q.c0 0 [m.e8, m.e4], ([] : List Nat)) ∧ (netJ m).Main own me (Gv0 m.Shun m.q.Wg w.heap.size) (fun _ => False) g w') 80 (G ((base 11).at ⟨T, []⟩ [.code (tlM 4)]) m.cs) w := by
 have g := mg_zero h ho hm
 refine Goo.mono (n := 60 + 20) (Goo.bind (fun w => Rel.refl w) (fun gg w' hh => ?_) (to_headJ g hT (mw_zero h))) (by decide)
 exact (head_wk g hm.one hh).imp fun g w h => ⟨_, rfl, rfl, rfl, rfl, h⟩
/-! ### what stands at the end -/
structure MpEnd (m : MpM) (e10 d : Nat) (w : World) : Prop where
 low : m.n0 ≤ e10 ∧ m.n0 ≤ d ∧ e10 ≠ m.q.Wg
 dfr : w.heap[d]? = some (.deferred (some []))
 live : WgLive 66 m.q.Wg w
 res : ∃ (v : Value) (ps : List Nat), w.cell? ⟨e10, 0, none⟩ = some v ∧ w.ownsRow 0 68 1 v ps.length (ps.map ptr) ∧ (∀ g, v.ownBlock = some g → m.n0 ≤ g ∧ g ≠ m.q.Wg) ∧ ps.length = m.xs.length ∧
   ∀ (i : Nat) (x : Int) (p : Nat), m.xs[i]? = some (.int .i64 x) → ps[i]? = some p → m.n0 ≤ p ∧ p ≠ m.q.Wg ∧ w.cell? ⟨p, 0, none⟩ = some (.int .i64 (m.q.phi x))
 out : Out m.n0 m.w0 (fun b _ => m.Shun b) w
theorem mp_phase (hm : MpMOK m) (h : MW0 m w) {T : Array Value} (hT : HTk m T) :
   Lone Try.prog m.n0 (fun S g w' => (∀ b, S b → m.Shun b ∨ b = m.q.Wg) ∧ ∃ e10 T d, HTp m e10 T ∧ MpEnd m e10 d w' ∧ ∀ Shun, Goes Try.prog true AtRel (SD Shun) (fun g w2 => g = G ((base 11).at ⟨T.setIfInBounds 49 (.tuple #[]), markD d⟩ (.inRegion ops17M [] :: [.code (tlM 9)])) m.cs ∧ AtRel w' w2) 20 g w') m.Shun (G ((base 11).at ⟨T, []⟩ [.code (tlM 4)]) m.cs) w := by
 intro gs sl t h0 hR
 have hns : ¬ m.Shun m.q.Wg := fun hs => by have := h.shun _ hs; have := hm.wg; omega
 obtain ⟨k, gs', w', sl', t', a', h1, h2, h3, me, j, fs, cl, hI, hw, hall, haf⟩ := phase (map_net hm) (sl := sl) h0 hR hns h.wg
   (Q := fun me => me = (MS.hire 0 m.q.c0 0 [m.e8, m.e4], ([] : List Nat))) (B := m.q.pp.muM (.hire 0 m.q.c0 0 [])) (f0 := fun _ => ⟨0, 0, 0, [], .recv, []⟩)
   ⟨_, rfl⟩
   (fun me hme => by
     subst hme
     exact ⟨⟨PP.Inv.init rfl rfl (fun hx => absurd hx (Nat.not_lt_zero _)) (by show 0 < 0 + m.q.K; have := hm.one; omega) _, fun _ => rfl, fun hx => by cases hx⟩, Nat.le_refl _⟩)
   (fun own ho => begin_netJ hm h hT ho)
 obtain ⟨ms, en⟩ := me
 obtain ⟨sent, rfl⟩ : ∃ s, ms = .wait s := PP.mact_wait hw
 obtain ⟨own, Given, Fz, e10, ps, T', l, d, v, rfl, hl, hg, hT', hF, hB⟩ := haf
 obtain ⟨r, hrj⟩ := hF.rj
 have hinv : m.q.pp.Inv (.wait (jobsL m.xs ps)) j fs cl := hI.inv
 have hval : ∀ n p, jobV n p ∈ jobsL m.xs ps → w'.cell? ⟨p, 0, none⟩ = some (.int .i64 (m.q.phi n)) := fun n p hmem => by
   obtain ⟨i, hi, hgot⟩ := (hinv.data2 rfl _).1 hmem
   obtain ⟨n', p', e, hc⟩ := ((hall i hi).2 : m.q.Fin _ _) _ hgot
   obtain ⟨rfl, rfl⟩ := jobV_inj e
   exact hc
 have hnw : ∀ b v, w'.cell? ⟨b, 0, none⟩ = some v → (∀ n, v ≠ .int .u64 n) → b ≠ m.q.Wg := fun b v hb hv e => by
   subst e
   obtain ⟨st, sm, hl⟩ := hrj.b.mw.live
   have h1 : w'.cell? ⟨m.q.Wg, 0, none⟩ = some (.int .u64 st) := hl.cellSt
   rw [hb] at h1
   exact hv _ (Option.some.inj h1)
 refine ⟨gs', a', w', sl', t', _, ⟨k, h1⟩, h2, h3, fun b hb => hb.elim .inl fun e => .inr (e ▸ hm.wg), fun b hb => hb, e10, T', d, hT', ⟨⟨hrj.b.var.mine.low, hrj.b.lp.od.2.2.2, hnw _ _ hrj.cell fun n e => ?_⟩, hrj.b.lp.dfr, hrj.b.mw.live, ⟨v, ps, hrj.cell, hrj.row.row, fun g hg => ?_, hl, fun i x p hx hp => ?_⟩, ?_⟩, hB⟩
 · rcases hrj.row.row.2 with ⟨hx, _⟩ | ⟨_, _, _, hx, _⟩ <;> (rw [hx] at e; cases e)
 · exact ⟨(hrj.row.rowO g hg).low, let ⟨_, hc⟩ := row_tp hrj.row.row hg; wg_typ hrj.b.mw.live hc (by decide)⟩
 · have hmem : jobV x p ∈ jobsL m.xs ps := by
     have hi := (List.getElem?_eq_some_iff.1 hx).1
     refine List.mem_iff_getElem?.2 ⟨i, ?_⟩
     simp [jobsL, List.getElem?_zipWith, hx, hp, jobV]
   have hc := hval x p hmem
   exact ⟨(hrj.row.low p (List.mem_of_getElem? hp)).1, hnw _ _ hc fun n e => (by cases e), hc⟩
 · exact hrj.b.mw.out.less fun b x hb hx => hg.given b x hb hx
end
noncomputable def lpC : Code := cI (cI (cS (cF (tlM 10))))
theorem oneTO : OneT Try.prog 22 3 := by
 have h0 : (Try.prog.info? 3).isSome = true := by kernel_rfl
 have h1 : ((Try.prog.info? 3).get h0).zero.isSome = true := by kernel_rfl
 exact ⟨Try.underlying22, (Try.prog.info? 3).get h0, ((Try.prog.info? 3).get h0).zero.get h1, by simp, by simp, by kernel_rfl, by kernel_rfl, of_decide_eq_true (by kernel_rfl)⟩
def mapV (f : Int → Int) : Value → Value | .int .i64 x => .int .i64 (f x) | v => v
structure ColE (m : MpM) (fa : Option Addr) (cap : Nat) (ps : List Nat) (w1 : World) : Prop where
 low : m.n0 ≤ w1.heap.size ∧ m.q.Wg < w1.heap.size
 row : w1.ownsRow 0 68 1 (.slice fa m.xs.length cap) m.xs.length (ps.map ptr)
 rowO : ∀ g, (Value.slice fa m.xs.length cap).ownBlock = some g → m.n0 ≤ g ∧ g ≠ m.q.Wg
 len : ps.length = m.xs.length
 val : ∀ (i : Nat) (x : Int) (p : Nat), m.xs[i]? = some (.int .i64 x) → ps[i]? = some p → m.n0 ≤ p ∧ p ≠ m.q.Wg ∧ w1.cell? ⟨p, 0, none⟩ = some (.int .i64 (m.q.phi x))
structure CJ (m : MpM) (w1 : World) (i : Nat) (vo : Value) (w : World) : Prop where
 size : w1.heap.size ≤ w.heap.size
 old : ∀ b, b < w1.heap.size → w.heap[b]? = w1.heap[b]?
 os : w.os = w1.os
 out : w.output = w1.output
 tape : w.tape = w1.tape
 row : w.ownsRow 0 3 1 vo i ((m.xs.map (mapV m.q.phi)).take i)
 rowO : ∀ g, vo.ownBlock = some g → w1.heap.size ≤ g
structure CX (m : MpM) (w1 : World) (i : Nat) (vo : Value) (bx : Nat) (u : Value) (w : World) : Prop where
 j : CJ m w1 i vo w
 cell : w.cell? ⟨bx, 0, none⟩ = some u
 low : w1.heap.size ≤ bx
structure HTq (fa : Option Addr) (n cap : Nat) (vo : Value) (i : Nat) (T : Array Value) : Prop where
 size : T.size = 64
 t13 : T[13]? = some vo
 t50 : T[50]? = some (.slice fa n cap)
 t51 : T[51]? = some (.int .i64 n)
 t52 : T[52]? = some (.int .i64 i)
theorem row_get {w : World} {t g n cap : Nat} {xs : List Value} (h : w.ownsRow 0 t 1 (.slice (some ⟨g, 0, none⟩) n cap) n xs) {i : Nat} {x : Value} (hx : xs[i]? = some x) : w.cell? ⟨g, i, none⟩ = some x := by
 rcases h.2 with ⟨e, _⟩ | ⟨g', cap', cur, e, _, h2, _, _, _, h6⟩
 · cases e
 · cases e
   rw [Nat.mul_one] at h6
   have : cur.toList[i]? = some x := by
     rw [← h6] at hx
     have hlt : i < (cur.toList.take n).length := (List.getElem?_eq_some_iff.1 hx).1
     rw [List.length_take] at hlt
     rwa [List.getElem?_take_of_lt (by omega)] at hx
   simp only [World.cell?, h2]
   simpa using this
theorem sd_gua {Shun : Nat → Prop} {w w' : World} {es : Array Event} {Wg : Nat} (h : Gua false Wg (fun b _ => ¬ Shun b) (fun b _ => ¬ Shun b) w w' es) (hs : ∀ b, Shun b → b < w.heap.size) : SD Shun w w' es := ⟨h.size, fun e he => by
 rcases h.evs e he with ⟨a, wr, sy, rfl, _, h2, h3⟩ | ⟨h, _⟩ | ⟨h, _⟩ | rfl
 · refine .inl ⟨a, wr, sy, rfl, fun hx => ?_, h2⟩
   rcases h3 with h | h | h
   · have := hs _ hx; omega
   · exact h hx
   · exact h.2 hx
 · cases h
 · cases h
 · exact .inr (.inr rfl)⟩
section
variable {m : MpM} {Shun : Nat → Prop} {w w₁ w1 : World} {cs : List Frame} {fa : Option Addr} {cap i d e10 bx : Nat} {ps : List Nat} {vo u : Value}
theorem CJ.steady : Steady (CJ m w1 i vo) := fun _w _d h => ⟨h.size, h.old, h.os, h.out, h.tape, h.row, h.rowO⟩
theorem CX.steady : Steady (CX m w1 i vo bx u) := fun w d h => ⟨CJ.steady w d h.j, h.cell, h.low⟩
theorem CJ.cell (h : CJ m w1 i vo w) {b o : Nat} {v : Value} (hv : w1.cell? ⟨b, o, none⟩ = some v) : w.cell? ⟨b, o, none⟩ = some v := (cell?_eq (h.old b (cell_lt hv)) o).trans hv
theorem CX.new (h : CJ m w1 i vo w) {t : TypeId} : CX m w1 i vo w.heap.size u (w.alloc (.cells #[u] t)) := by
 have hn := heap_alloc_new w (Obj.cells #[u] t)
 exact ⟨⟨by simp only [World.size_alloc]; have := h.size; omega, fun b hb => (heap_alloc_old _ _ b (Nat.lt_of_lt_of_le hb h.size)).trans (h.old b hb), h.os, h.out, h.tape, ownsRow_of h.row fun g hg => heap_alloc_old _ _ g (h.row.lt g hg).2, h.rowO⟩, by unfold World.cell?; rw [hn]; rfl, h.size⟩
theorem CX.appended {vo' : Value} {n : Int} (h : CX m w1 i vo bx (.int .i64 (m.q.phi n)) w) (hx : m.xs[i]? = some (.int .i64 n)) (hgr : w.grownBy w₁ vo.ownBlock) (hrow : w₁.ownsRow 0 3 1 vo' (i + 1) ((m.xs.map (mapV m.q.phi)).take i ++ [.int .i64 (m.q.phi n)])) (hown : ∀ g, vo'.ownBlock = some g → vo.ownBlock = some g ∨ (w.heap.size ≤ g ∧ g < w₁.heap.size)) :
   CJ m w1 (i + 1) vo' w₁ := by
 refine ⟨Nat.le_trans h.j.size hgr.size, fun b hb => (hgr.block b (Nat.lt_of_lt_of_le hb h.j.size) fun e => ?_).trans (h.j.old b hb), hgr.os.trans h.j.os, hgr.output.trans h.j.out, hgr.tape.trans h.j.tape, ?_, fun g hg => ?_⟩
 · have := h.j.rowO b e.symm; omega
 · have e : (m.xs.map (mapV m.q.phi)).take (i + 1) = (m.xs.map (mapV m.q.phi)).take i ++ [.int .i64 (m.q.phi n)] := by
     rw [List.take_add_one, List.getElem?_map, hx]
     rfl
   rw [e]; exact hrow
 · rcases hown g hg with x | x
   · exact h.j.rowO g x
   · exact Nat.le_trans h.j.size x.1
set_option maxRecDepth 100000 in
theorem col_round {Stop : Goroutine → World → Prop} (hm : MpMOK m) (hsh : ∀ b, Shun b → b < m.n0 ∨ b = m.q.Wg) (E : ColE m fa cap ps w1) {x : Int} (hx : m.xs[i]? = some (.int .i64 x)) {T : Array Value} (hT : HTq fa m.xs.length cap vo i T) (hF : CJ m w1 i vo w)
   (hgo : ∀ T vo' w, HTq fa m.xs.length cap vo' (i + 1) T → CJ m w1 (i + 1) vo' w → Stop (G ((base 11).at ⟨T, markD d⟩ [.code lpC, .inLoop lpC, .inBlock 4, .code (tlM 11)]) cs) w) :
   Goes Try.prog true AtRel (SD Shun) Stop 80 (G ((base 11).at ⟨T, markD d⟩ [.code lpC, .inLoop lpC, .inBlock 4, .code (tlM 11)]) cs) w := by
 have hD : ∀ w, SD Shun w w #[] := sd_idle
 have rl : ∀ {w w₁ : World}, CJ m w1 i vo w → AtRel w w₁ → CJ m w1 i vo w₁ := fun h r => CJ.steady.rel h r
 have hi : i < m.xs.length := (List.getElem?_eq_some_iff.1 hx).1
 have hlt : decide ((i : Int) < (m.xs.length : Int)) = true := decide_eq_true (by omega)
 have hnn : (0 : Int) ≤ (i : Int) := by omega
 have hlen : m.xs.length < 1000000 := by have := hm.xs.1; have := hm.xs.2.1; omega
 have hadd : IntKind.i64.wrap ((i : Int) + 1) = ((i + 1 : Nat) : Int) := by rw [IntKind.wrap_i64]; omega
 have hnew : ∀ (w : World) b, w1.heap.size ≤ w.heap.size → w1.heap.size ≤ b → ¬ Shun b := fun w b _ hb hs => by
   have h1 := E.low.1; have h2 := E.low.2
   rcases hsh b hs with h | h <;> omega
 have hsz : ∀ (w : World) b, w1.heap.size ≤ w.heap.size → Shun b → b < w.heap.size := fun w b hw hs => by
   have h1 := E.low.1; have h2 := E.low.2
   rcases hsh b hs with h | h <;> omega
 obtain ⟨p, hp⟩ : ∃ p, ps[i]? = some p := ⟨_, List.getElem?_eq_getElem (by rw [E.len]; exact hi)⟩
 obtain ⟨hp1, hp2, hp3⟩ := E.val i x p hx hp
 obtain ⟨g, rfl⟩ : ∃ g, fa = some ⟨g, 0, none⟩ := by
   rcases E.row.2 with ⟨_, h0⟩ | ⟨g, c, cur, e, _⟩
   · omega
   · cases e; exact ⟨g, rfl⟩
 have hg := E.rowO g rfl
 have hpc : w1.cell? ⟨g, i, none⟩ = some (ptr p) := row_get E.row (by rw [List.getElem?_map, hp]; rfl)
 have hsg : ¬ Shun g := fun hs => (hsh g hs).elim (fun h => by have := hg.1; omega) hg.2
 have hsp : ¬ Shun p := fun hs => (hsh p hs).elim (fun h => by omega) hp2
 replace hgo := Hd.mk hgo
 replace E := Hd.mk E
 replace hx := Hd.mk hx
 replace hsz := Hd.mk hsz
 replace hnew := Hd.mk hnew
 clear hp1 hp2 hg hp
 obtain ⟨hs, t13, t50, t51, t52⟩ := hT
 obtain ⟨v0, v1, v2, v3, v4, v5, v6, v7, v8, v9, v10, v11, v12, v13, v14, v15, v16, v17, v18, v19, v20, v21, v22, v23, v24, v25, v26, v27, v28, v29, v30, v31, v32, v33, v34, v35, v36, v37, v38, v39, v40, v41, v42, v43, v44, v45, v46, v47, v48, v49, v50, v51, v52, v53, v54, v55, v56, v57, v58, v59, v60, v61, v62, v63, rfl⟩ := array64 T hs
 simp only [List.getElem?_toArray, List.getElem?_cons_zero, List.getElem?_cons_succ, Option.some.injEq] at t13 t50 t51 t52
 subst t13 t50 t51 t52
 clear hs
 simp only [lpC, tlM, cS, cF, cI, bodyM, Try.f11, Option.getD_some] at hgo ⊢
 repeat ((first | ((with_reducible refine g_opG ?_); first | (refine g_unw hD rfl rfl ?_; intro _ h₁; replace hF := rl hF h₁; clear h₁; walk_nrm) | (refine Goes.step rfl ?_; intro _ h₁; replace hF := rl hF h₁; clear h₁; refine goes_oper_k rfl rfl (by k_ne) fun K hK => ?_; go_simp; refine hK _ _ ⟨g_idle hD fun e he => by have hm := mem_listed he; simp [go_sem, *] at hm, ?_⟩; clear hK K; try w_num)) | ((first | ((with_reducible refine g_c (k' := ?_) true true hD ?_ ?_); rotate_left; focus exact rfl) | with_reducible refine g_r hD rfl ?_); intro _ h₁; replace hF := rl hF h₁; clear h₁)))
 refine Goes.step rfl fun w₁ h₁ => ?_
 replace hF := rl hF h₁
 clear h₁
 refine goes_oper_k rfl rfl (by decide) (fun K hK => ?_)
 have h1 := hF.cell hpc
 go_simp
 refine hK _ _ ⟨sd_read fun e he => ?_, ?_⟩
 · have hm := mem_listed he
   simp [go_sem, h1] at hm
   exact ⟨_, _, _, hm, hsg, cell_lt h1⟩
 clear hK K h1
 try walk_nrm
 repeat ((first | ((with_reducible refine g_opG ?_); first | (refine g_unw hD rfl rfl ?_; intro _ h₁; replace hF := rl hF h₁; clear h₁; walk_nrm) | (refine Goes.step rfl ?_; intro _ h₁; replace hF := rl hF h₁; clear h₁; refine goes_oper_k rfl rfl (by k_ne) fun K hK => ?_; go_simp; refine hK _ _ ⟨g_idle hD fun e he => by have hm := mem_listed he; simp [go_sem, *] at hm, ?_⟩; clear hK K; try w_num)) | ((first | ((with_reducible refine g_c (k' := ?_) true true hD ?_ ?_); rotate_left; focus exact rfl) | with_reducible refine g_r hD rfl ?_); intro _ h₁; replace hF := rl hF h₁; clear h₁)))
 refine Goes.step rfl fun w₁ h₁ => ?_
 replace hF := rl hF h₁
 clear h₁
 refine goes_oper_k rfl rfl (by decide) (fun K hK => ?_)
 have h1 := hF.cell hp3
 go_simp
 refine hK _ _ ⟨sd_read fun e he => ?_, ?_⟩
 · have hm := mem_listed he
   simp [go_sem, h1] at hm
   exact ⟨_, _, _, hm, hsp, cell_lt h1⟩
 clear hK K h1
 try walk_nrm
 refine Goes.step rfl fun w₁ h₁ => ?_
 replace hF := rl hF h₁
 clear h₁
 refine goes_oper_k rfl rfl (by decide) (fun K hK => ?_)
 go_simp
 refine hK _ _ ⟨sd_new (by simp) (fun e he => ?_), ?_⟩
 · have hm := mem_listed he
   simp [go_sem] at hm
 clear hK K
 replace hF := CX.new (u := .int .i64 (m.q.phi x)) (t := 3) hF
 clear rl
 generalize w₁.alloc (.cells #[.int .i64 (m.q.phi x)] 3) = w₂ at hF ⊢
 generalize w₁.heap.size = bx at hF ⊢
 clear w₁
 try walk_nrm
 refine Goes.step rfl fun w₃ h₃ => ?_
 replace hF := CX.steady.rel hF h₃
 clear h₃
 have hbW : bx ≠ m.q.Wg := fun e => by have := E.out.low.2; have := hF.low; omega
 obtain ⟨v', w', hr, hrow', hgr, hb', hgua⟩ := append1 (P := Try.prog) (said := false) (Wg := m.q.Wg) (Writ := fun b _ => ¬ Shun b) (Read := fun b _ => ¬ Shun b) (ty := 22) oneTO (cx := 1) hF.j.row hF.cell rfl (by omega)
   (fun g hg => ⟨(fun e => by have := E.out.low.2; have := hF.j.rowO g hg; omega), fun _ => hnew.out w₃ g hF.j.size (hF.j.rowO g hg)⟩) ⟨hbW, fun _ => .inl (hnew.out w₃ bx hF.j.size hF.low)⟩
 rw [stepG_value rfl rfl (by decide) (run_append_op _ _ 22 rfl rfl rfl hr)]
 simp only [goes_go]
 refine ⟨?_, ?_⟩
 · unfold listed
   rw [events_append_op _ _ 22 rfl rfl rfl]
   exact sd_gua (hgua _) (fun b hb => hsz.out w₃ b hF.j.size hb)
 replace hF := hF.appended hx.out hgr hrow' hb'
 clear hgua hr hgr hb' hrow' hbW w₃
 have rl : ∀ {w w₁ : World}, CJ m w1 (i + 1) v' w → AtRel w w₁ → CJ m w1 (i + 1) v' w₁ := fun h r => CJ.steady.rel h r
 walk_nrm
 repeat ((first | ((with_reducible refine g_opG ?_); first | (refine g_unw hD rfl rfl ?_; intro _ h₁; replace hF := rl hF h₁; clear h₁; walk_nrm) | (refine Goes.step rfl ?_; intro _ h₁; replace hF := rl hF h₁; clear h₁; refine goes_oper_k rfl rfl (by k_ne) fun K hK => ?_; go_simp; refine hK _ _ ⟨g_idle hD fun e he => by have hm := mem_listed he; simp [go_sem, *] at hm, ?_⟩; clear hK K; try w_num)) | ((first | ((with_reducible refine g_c (k' := ?_) false true hD ?_ ?_); rotate_left; focus exact rfl) | with_reducible refine g_r hD rfl ?_); intro _ h₁; replace hF := rl hF h₁; clear h₁)))
 (first | ((with_reducible refine g_opG ?_); first | (refine g_unw hD rfl rfl ?_; intro _ h₁; replace hF := rl hF h₁; clear h₁; walk_nrm) | (refine Goes.step rfl ?_; intro _ h₁; replace hF := rl hF h₁; clear h₁; refine goes_oper_k rfl rfl (by k_ne) fun K hK => ?_; go_simp; refine hK _ _ ⟨g_idle hD fun e he => by have hm := mem_listed he; simp [go_sem, *] at hm, ?_⟩; clear hK K; try w_num)) | ((first | ((with_reducible refine g_c (k' := ?_) true true hD ?_ ?_); rotate_left; focus exact rfl) | with_reducible refine g_r hD rfl ?_); intro _ h₁; replace hF := rl hF h₁; clear h₁))
 exact Goes.stop fun w₁ h₁ => hgo.out _ _ _ ⟨rfl, rfl, rfl, rfl, rfl⟩ (rl hF h₁)
end
structure MpRes (m : MpM) (v : Value) (w : World) : Prop where
 row : w.ownsRow 0 3 1 v m.xs.length (m.xs.map (mapV m.q.phi))
 live : WgLive 66 m.q.Wg w
 out : Out m.n0 m.w0 (fun b _ => m.Shun b) w
section
variable {m : MpM} {Shun : Nat → Prop} {w w₁ w1 : World} {cs : List Frame} {fa : Option Addr} {cap i d e10 : Nat} {ps : List Nat} {vo : Value}
theorem MpEnd.steady : Steady (MpEnd m e10 d) := fun _w d h => ⟨h.low, h.dfr, h.live, h.res, h.out.at d⟩
theorem MpRes.steady : Steady (MpRes m vo) := fun _w d h => ⟨h.row, h.live, h.out.at d⟩
set_option maxRecDepth 100000 in
theorem col_first {Stop : Goroutine → World → Prop} (hm : MpMOK m) (hsh : ∀ b, Shun b → b < m.n0 ∨ b = m.q.Wg) {T : Array Value} (hT : HTp m e10 T) (hF : MpEnd m e10 d w)
   (hgo : ∀ T fa cap ps w, HTq fa m.xs.length cap (.slice none 0 0) 0 T → ColE m fa cap ps w → MpEnd m e10 d w → Stop (G ((base 11).at ⟨T, markD d⟩ [.code lpC, .inLoop lpC, .inBlock 4, .code (tlM 11)]) cs) w) :
   Goes Try.prog true AtRel (SD Shun) Stop 40 (G ((base 11).at ⟨T.setIfInBounds 49 (.tuple #[]), markD d⟩ (.inRegion ops17M [] :: [.code (tlM 9)])) cs) w := by
 have hD : ∀ w, SD Shun w w #[] := sd_idle
 have rl : ∀ {w w₁ : World}, MpEnd m e10 d w → AtRel w w₁ → MpEnd m e10 d w₁ := fun h r => MpEnd.steady.rel h r
 have hlen : m.xs.length < 1000000 := by have := hm.xs.1; have := hm.xs.2.1; omega
 replace hgo := Hd.mk hgo
 obtain ⟨hs, t8, t9, t10⟩ := hT
 obtain ⟨v0, v1, v2, v3, v4, v5, v6, v7, v8, v9, v10, v11, v12, v13, v14, v15, v16, v17, v18, v19, v20, v21, v22, v23, v24, v25, v26, v27, v28, v29, v30, v31, v32, v33, v34, v35, v36, v37, v38, v39, v40, v41, v42, v43, v44, v45, v46, v47, v48, v49, v50, v51, v52, v53, v54, v55, v56, v57, v58, v59, v60, v61, v62, v63, rfl⟩ := array64 T hs
 simp only [List.getElem?_toArray, List.getElem?_cons_zero, List.getElem?_cons_succ, Option.some.injEq] at t8 t9 t10
 subst t8 t9 t10
 clear hs
 simp only [ops17M, lpC, tlM, cS, cF, cI, cO, bodyM, Try.f11, Option.getD_some] at hgo ⊢
 try walk_nrm
 repeat ((first | ((with_reducible refine g_opG ?_); first | (refine g_unw hD rfl rfl ?_; intro _ h₁; replace hF := rl hF h₁; clear h₁; walk_nrm) | (refine Goes.step rfl ?_; intro _ h₁; replace hF := rl hF h₁; clear h₁; refine goes_oper_k rfl rfl (by k_ne) fun K hK => ?_; go_simp; refine hK _ _ ⟨g_idle hD fun e he => by have hm := mem_listed he; simp [go_sem, *] at hm, ?_⟩; clear hK K; try w_num)) | ((first | ((with_reducible refine g_c (k' := ?_) true true hD ?_ ?_); rotate_left; focus exact rfl) | with_reducible refine g_r hD rfl ?_); intro _ h₁; replace hF := rl hF h₁; clear h₁)))
 refine Goes.step rfl fun w₁ h₁ => ?_
 replace hF := rl hF h₁
 clear h₁
 refine goes_oper_k rfl rfl (by decide) (fun K hK => ?_)
 obtain ⟨v, ps, h1, hrow, hrO, hl, hval⟩ := hF.res
 obtain ⟨fa, cap, rfl⟩ : ∃ fa cap, v = .slice fa m.xs.length cap := by
   rcases hrow.2 with ⟨rfl, h0⟩ | ⟨g, c, cur, rfl, _⟩
   · rw [← hl, h0]; exact ⟨_, _, rfl⟩
   · rw [hl]; exact ⟨_, _, rfl⟩
 rw [hl] at hrow
 go_simp
 refine hK _ _ ⟨sd_read fun e he => ?_, ?_⟩
 · have hm := mem_listed he
   simp [go_sem, h1] at hm
   exact ⟨_, _, _, hm, fun hx => (hsh _ hx).elim (fun h => by have := hF.low.1; exact absurd h (by show ¬ e10 < m.n0; omega)) hF.low.2.2, cell_lt h1⟩
 clear hK K h1
 have hE : ∀ w, (MpEnd m e10 d w ∧ w.ownsRow 0 68 1 (.slice fa m.xs.length cap) m.xs.length (ps.map ptr) ∧ ∀ (i : Nat) (x : Int) (p : Nat), m.xs[i]? = some (.int .i64 x) → ps[i]? = some p → m.n0 ≤ p ∧ p ≠ m.q.Wg ∧ w.cell? ⟨p, 0, none⟩ = some (.int .i64 (m.q.phi x))) → ColE m fa cap ps w := fun w h =>
   ⟨⟨h.1.out.size, let ⟨_, _, hl⟩ := h.1.live; (Array.getElem?_eq_some_iff.1 hl).1⟩, h.2.1, hrO, hl, h.2.2⟩
 replace hE := Hd.mk hE
 replace hF := And.intro hF (And.intro hrow hval)
 clear hrow hval hrO hl rl
 have rl : ∀ {w w₁ : World}, (MpEnd m e10 d w ∧ w.ownsRow 0 68 1 (.slice fa m.xs.length cap) m.xs.length (ps.map ptr) ∧ ∀ (i : Nat) (x : Int) (p : Nat), m.xs[i]? = some (.int .i64 x) → ps[i]? = some p → m.n0 ≤ p ∧ p ≠ m.q.Wg ∧ w.cell? ⟨p, 0, none⟩ = some (.int .i64 (m.q.phi x))) → AtRel w w₁ →
     (MpEnd m e10 d w₁ ∧ w₁.ownsRow 0 68 1 (.slice fa m.xs.length cap) m.xs.length (ps.map ptr) ∧ ∀ (i : Nat) (x : Int) (p : Nat), m.xs[i]? = some (.int .i64 x) → ps[i]? = some p → m.n0 ≤ p ∧ p ≠ m.q.Wg ∧ w₁.cell? ⟨p, 0, none⟩ = some (.int .i64 (m.q.phi x))) := fun h r => ⟨MpEnd.steady.rel h.1 r, by obtain ⟨d, rfl⟩ := r; exact h.2⟩
 try walk_nrm
 repeat ((first | ((with_reducible refine g_opG ?_); first | (refine g_unw hD rfl rfl ?_; intro _ h₁; replace hF := rl hF h₁; clear h₁; walk_nrm) | (refine Goes.step rfl ?_; intro _ h₁; replace hF := rl hF h₁; clear h₁; refine goes_oper_k rfl rfl (by k_ne) fun K hK => ?_; go_simp; refine hK _ _ ⟨g_idle hD fun e he => by have hm := mem_listed he; simp [go_sem, *] at hm, ?_⟩; clear hK K; try w_num)) | ((first | ((with_reducible refine g_c (k' := ?_) true false hD ?_ ?_); rotate_left; focus exact rfl) | with_reducible refine g_r hD rfl ?_); intro _ h₁; replace hF := rl hF h₁; clear h₁)))
 (first | ((with_reducible refine g_opG ?_); first | (refine g_unw hD rfl rfl ?_; intro _ h₁; replace hF := rl hF h₁; clear h₁; walk_nrm) | (refine Goes.step rfl ?_; intro _ h₁; replace hF := rl hF h₁; clear h₁; refine goes_oper_k rfl rfl (by k_ne) fun K hK => ?_; go_simp; refine hK _ _ ⟨g_idle hD fun e he => by have hm := mem_listed he; simp [go_sem, *] at hm, ?_⟩; clear hK K; try w_num)) | ((first | ((with_reducible refine g_c (k' := ?_) true true hD ?_ ?_); rotate_left; focus exact rfl) | with_reducible refine g_r hD rfl ?_); intro _ h₁; replace hF := rl hF h₁; clear h₁))
 exact Goes.stop fun w₁ h₁ => (let hF' := rl hF h₁; hgo.out _ _ _ ps _ ⟨rfl, rfl, rfl, rfl, rfl⟩ (hE.out _ hF') hF'.1)
def ColEnd (m : MpM) (w1 : World) (d : Nat) (cs : List Frame) (g : Goroutine) (w : World) : Prop :=
 ∃ T vo, T.size = 64 ∧ T[13]? = some vo ∧ CJ m w1 m.xs.length vo w ∧ ∃ fa cap, HTq fa m.xs.length cap vo m.xs.length T ∧ g = G ((base 11).at ⟨T, markD d⟩ [.code lpC, .inLoop lpC, .inBlock 4, .code (tlM 11)]) cs
theorem col_loop (hm : MpMOK m) (hsh : ∀ b, Shun b → b < m.n0 ∨ b = m.q.Wg) (E : ColE m fa cap ps w1) {N0 : Nat} : ∀ (k i : Nat) (T : Array Value) (vo : Value) (w : World), i + k = m.xs.length → HTq fa m.xs.length cap vo i T → CJ m w1 i vo w →
   Lone Try.prog N0 (fun S g w => S = Shun ∧ ColEnd m w1 d cs g w) Shun (G ((base 11).at ⟨T, markD d⟩ [.code lpC, .inLoop lpC, .inBlock 4, .code (tlM 11)]) cs) w := by
 intro k
 induction k with
 | zero =>
   intro i T vo w hi hT hF
   obtain rfl : i = m.xs.length := by omega
   exact Lone.done ⟨rfl, T, vo, hT.size, hT.t13, hF, fa, cap, hT, rfl⟩
 | succ k ih =>
   intro i T vo w hi hT hF
   have hlt : i < m.xs.length := by omega
   obtain ⟨n, hn⟩ := hm.xs.2.2 _ (List.getElem_mem hlt)
   have hv : m.xs[i]? = some (.int .i64 n) := by rw [List.getElem?_eq_getElem hlt, hn]
   exact Lone.on (n := 80) (col_round hm hsh E hv hT hF fun T' vo' w' hT' hF' _ => ih (i + 1) T' vo' w' (by omega) hT' hF')
set_option maxRecDepth 100000 in
theorem col_last {Stop : Goroutine → World → Prop} (_hm : MpMOK m) (hE : MpEnd m e10 d w1) (hd1 : d < w1.heap.size) {b₀ : Frame} {a₀ : Act} {ops₀ : Array Oper} {i₀ : Nat} {rest₀ : List Nat} {k₀ : List Item}
   {g : Goroutine} (h : ColEnd m w1 d (b₀.at a₀ (.inRegion ops₀ (i₀ :: rest₀) :: k₀) :: cs) g w)
   (hgo : ∀ v w, MpRes m v w → Stop (G (b₀.at (a₀.put ((ops₀[i₀]?).bind (·.dst)) (.tuple #[v, .int .i64 0])) (.inRegion ops₀ rest₀ :: k₀)) cs) w) :
   Goes Try.prog true AtRel (SD Shun) Stop 40 g w := by
 obtain ⟨T, vo, _, _, hF, fa, cap, hT, rfl⟩ := h
 have hD : ∀ w, SD Shun w w #[] := sd_idle
 have rl : ∀ {w w₁ : World}, CJ m w1 m.xs.length vo w → AtRel w w₁ → CJ m w1 m.xs.length vo w₁ := fun h r => CJ.steady.rel h r
 have hlt : decide ((m.xs.length : Int) < (m.xs.length : Int)) = false := decide_eq_false (by omega)
 replace hgo := Hd.mk hgo
 obtain ⟨hs, t13, t50, t51, t52⟩ := hT
 obtain ⟨v0, v1, v2, v3, v4, v5, v6, v7, v8, v9, v10, v11, v12, v13, v14, v15, v16, v17, v18, v19, v20, v21, v22, v23, v24, v25, v26, v27, v28, v29, v30, v31, v32, v33, v34, v35, v36, v37, v38, v39, v40, v41, v42, v43, v44, v45, v46, v47, v48, v49, v50, v51, v52, v53, v54, v55, v56, v57, v58, v59, v60, v61, v62, v63, rfl⟩ := array64 T hs
 simp only [List.getElem?_toArray, List.getElem?_cons_zero, List.getElem?_cons_succ, Option.some.injEq] at t13 t50 t51 t52
 subst t13 t50 t51 t52
 clear hs
 simp only [lpC, tlM, cS, cF, cI, bodyM, Try.f11, Option.getD_some]
 repeat ((first | ((with_reducible refine g_opG ?_); first | (refine g_unw hD rfl rfl ?_; intro _ h₁; replace hF := rl hF h₁; clear h₁; walk_nrm) | (refine Goes.step rfl ?_; intro _ h₁; replace hF := rl hF h₁; clear h₁; refine goes_oper_k rfl rfl (by k_ne) fun K hK => ?_; go_simp; refine hK _ _ ⟨g_idle hD fun e he => by have hm := mem_listed he; simp [go_sem, *] at hm, ?_⟩; clear hK K; try w_num)) | ((first | ((with_reducible refine g_c (k' := ?_) true true hD ?_ ?_); rotate_left; focus exact rfl) | with_reducible refine g_r hD rfl ?_); intro _ h₁; replace hF := rl hF h₁; clear h₁)))
 refine Goes.step rfl fun w₂ h₂ => ?_
 replace hF := rl hF h₂
 clear h₂
 have hd : w₂.heap[d]? = some (.deferred (some [])) := (hF.old d hd1).trans hE.dfr
 rw [stepG_collected rfl hd]
 simp only [goes_go]
 have hne : ∀ b o, w₂.heap[b]? = some o → (∀ ds, o ≠ Obj.deferred ds) → (w₂.putObj d (.deferred none)).heap[b]? = w₂.heap[b]? := fun b o hb hn => World.putObj_heap_other fun e => by
   rw [e, hd] at hb
   exact hn _ (Option.some.inj hb).symm
 refine ⟨⟨by simp, fun e he => .inr (.inl ?_)⟩, ?_⟩
 · rcases seen_obj he with rfl | rfl
   · exact ⟨d, _, rfl, by simpa using (Array.getElem?_eq_some_iff.1 hd).1⟩
   · exact ⟨d, _, rfl, by simpa using (Array.getElem?_eq_some_iff.1 hd).1⟩
 have hR : MpRes m v13 (w₂.putObj d (.deferred none)) := by
   have hrow := hF.row
   rw [List.take_of_length_le (by simp)] at hrow
   refine ⟨ownsRow_of hrow fun g hg => ?_, ?_, ?_⟩
   · obtain ⟨c, hc⟩ := row_tp hrow hg
     exact hne g _ hc fun _ e => by cases e
   · obtain ⟨st, sm, hl⟩ := hE.live
     have hl' : w₂.heap[m.q.Wg]? = some (Go.ConcR.wgBlock 66 st sm) := (hF.old _ (Array.getElem?_eq_some_iff.1 hl).1).trans hl
     have hl2 : WgAt 66 m.q.Wg w₂ st sm := hl'
     exact ⟨st, sm, hl2.of_block (hne _ _ hl' fun _ e => by cases e)⟩
   · exact (hE.out.more hF.size (fun b hb => hF.old b (Nat.lt_of_lt_of_le hb hE.out.size)) hF.os hF.out hF.tape).put _ hE.low.2.1
 clear hne hd hF rl
 have rl : ∀ {w w₁ : World}, MpRes m v13 w → AtRel w w₁ → MpRes m v13 w₁ := fun h r => MpRes.steady.rel h r
 refine Goes.step rfl fun w₃ h₃ => ?_
 replace hR := rl hR h₃
 clear h₃
 refine goes_leave2 rfl rfl Try.func11 rfl ⟨sd_idle _, ?_⟩
 exact Goes.stop fun w₄ h₄ => hgo.out _ _ (rl hR h₄)
end
--@extra@
theorem bytesJ : ∃ i, Try.prog.info? 70 = some i ∧ i.bytes ≤ 64 := by
 have h : (Try.prog.info? 70).map (fun i => decide (i.bytes ≤ 64)) = some true := by kernel_rfl
 obtain ⟨i, hi, hb⟩ := Option.map_eq_some_iff.1 h
 exact ⟨i, hi, of_decide_eq_true hb⟩
@[go_sem] theorem mkC (w : World) : (Instr.makeChan 58 (.int .i64 0)).run Try.prog w = .ok (.chan (some w.heap.size)) (w.alloc (.chan 0 #[] false 0 0 false)) := by
 obtain ⟨i, hi, hb⟩ := bytesJ
 simpa using run_makeChan (P := Try.prog) (w := w) Try.underlying58 hi .i64 0 (by omega) (by omega)
@[go_sem] theorem mkCe (w : World) (es : Array Event) : (Instr.makeChan 58 (.int .i64 0)).events Try.prog w es = es := by
 obtain ⟨i, hi, hb⟩ := bytesJ
 simpa using events_makeChan (P := Try.prog) (w := w) Try.underlying58 hi .i64 0 (by omega) (by omega) es
section
variable {Shun : Nat → Prop} {n0 : Nat} {w0 w : World} {Given : Cells} {cs : List Frame}
set_option maxRecDepth 100000 in
theorem mp_open {Stop : Goroutine → World → Prop} (hsh : ∀ b, Shun b → b < n0) {K : Nat} (hK1 : 0 < K) (hK : K ≤ 16) {f f' : Fn} {fr fr' cp cp' : Array Value} (hF : Fresh n0 w0 Given [] w)
   (hgo : ∀ T w, Fresh n0 w0 Given [.cells #[.func f fr cp] 28 (0, 0), .chan 0 #[] false 0 0 false, .cells #[.chan (some (n0 + 1))] 58 (0, 0), .cells #[.int .u64 0, .int .u32 0] 66 (0, 0)] w →
     T.size = 64 → T[0]? = some (.int .i64 K) → T[2]? = some (.func f' fr' cp') → T[4]? = some (ptr n0) → T[8]? = some (ptr (n0 + 2)) → T[9]? = some (ptr (n0 + 3)) → Stop (G ((base 11).at ⟨T, []⟩ [.code (tlM 4)]) cs) w) :
   Goes Try.prog true AtRel (SD Shun) Stop 60 (G ((base 11).at ⟨#[.int .i64 K, .func f fr cp, .func f' fr' cp', undef, undef, undef, undef, undef, undef, undef, undef, undef, undef, undef, undef, undef, undef, undef, undef, undef, undef, undef, undef, undef, undef, undef, undef, undef, undef, undef, undef, undef, undef, undef, undef, undef, undef, undef, undef, undef, undef, undef, undef, undef, undef, undef, undef, undef, undef, undef, undef, undef, undef, undef, undef, undef, undef, undef, undef, undef, undef, undef, undef, undef], []⟩ [.code bodyM]) cs) w := by
 have hD : ∀ w, SD Shun w w #[] := sd_idle
 have rl : ∀ {l : List Obj} {w w₁ : World}, Fresh n0 w0 Given l w → AtRel w w₁ → Fresh n0 w0 Given l w₁ := fun h r => Fresh.steady.rel h r
 have hlt : decide ((K : Int) < 1) = false := decide_eq_false (by omega)
 have hgt : decide ((16 : Int) < (K : Int)) = false := decide_eq_false (by omega)
 replace hgo := Hd.mk hgo
 simp only [tlM, cS, bodyM, Try.f11, Option.getD_some] at hgo ⊢
 repeat ((first | ((first | ((with_reducible refine g_c (k' := ?_) true true hD ?_ ?_); rotate_left; focus exact rfl) | with_reducible refine g_r hD rfl ?_); intro _ h₁; replace hF := rl hF h₁; clear h₁)))
 refine Goes.step rfl fun w₁ h₁ => ?_
 replace hF := rl hF h₁
 clear h₁
 refine goes_oper_k rfl rfl (by decide) (fun K hK => ?_)
 go_simp
 refine hK _ _ ⟨sd_new (by simp) (fun e he => ?_), ?_⟩
 · have hm := mem_listed he
   simp [go_sem] at hm
 clear hK K
 have hsz : w₁.heap.size = n0 + 0 := hF.size
 replace hF := hF.alloc (.cells #[.func f fr cp] 28)
 simp only [List.nil_append] at hF
 rw [hsz]
 clear hsz
 generalize w₁.alloc (.cells #[.func f fr cp] 28) = w₂ at hF ⊢
 clear w₁
 try walk_nrm
 repeat ((first | ((with_reducible refine g_opG ?_); first | (refine g_unw hD rfl rfl ?_; intro _ h₁; replace hF := rl hF h₁; clear h₁; walk_nrm) | (refine Goes.step rfl ?_; intro _ h₁; replace hF := rl hF h₁; clear h₁; refine goes_oper_k rfl rfl (by k_ne) fun K hK => ?_; go_simp; refine hK _ _ ⟨g_idle hD fun e he => by have hm := mem_listed he; simp [go_sem, *] at hm, ?_⟩; clear hK K; try w_num)) | ((first | ((with_reducible refine g_c (k' := ?_) true true hD ?_ ?_); rotate_left; focus exact rfl) | with_reducible refine g_r hD rfl ?_); intro _ h₁; replace hF := rl hF h₁; clear h₁)))
 refine Goes.step rfl fun w₁ h₁ => ?_
 replace hF := rl hF h₁
 clear h₁
 refine goes_oper_k rfl rfl (by decide) (fun K hK => ?_)
 have h1 : w₁.cell? ⟨n0, 0, none⟩ = some (.func f fr cp) := hF.cell (i := 0) rfl
 go_simp
 refine hK _ _ ⟨sd_read fun e he => ?_, ?_⟩
 · have hm := mem_listed he
   simp [go_sem, h1] at hm
   exact ⟨_, _, _, hm, fun hx => (by have : n0 < n0 := hsh _ hx; omega), cell_lt h1⟩
 clear hK K h1
 try walk_nrm
 repeat ((first | ((with_reducible refine g_opG ?_); first | (refine g_unw hD rfl rfl ?_; intro _ h₁; replace hF := rl hF h₁; clear h₁; walk_nrm) | (refine Goes.step rfl ?_; intro _ h₁; replace hF := rl hF h₁; clear h₁; refine goes_oper_k rfl rfl (by k_ne) fun K hK => ?_; go_simp; refine hK _ _ ⟨g_idle hD fun e he => by have hm := mem_listed he; simp [go_sem, *] at hm, ?_⟩; clear hK K; try w_num)) | ((first | ((with_reducible refine g_c (k' := ?_) true true hD ?_ ?_); rotate_left; focus exact rfl) | with_reducible refine g_r hD rfl ?_); intro _ h₁; replace hF := rl hF h₁; clear h₁)))
 refine Goes.step rfl fun w₁ h₁ => ?_
 replace hF := rl hF h₁
 clear h₁
 refine goes_oper_k rfl rfl (by decide) (fun K hK => ?_)
 go_simp
 refine hK _ _ ⟨sd_new (by simp) (fun e he => ?_), ?_⟩
 · have hm := mem_listed he
   simp [go_sem] at hm
 clear hK K
 have hsz : w₁.heap.size = n0 + 1 := hF.size
 replace hF := hF.alloc (.chan 0 #[] false 0 0 false)
 simp only [List.nil_append, List.cons_append] at hF
 rw [hsz]
 clear hsz
 generalize w₁.alloc (.chan 0 #[] false 0 0 false) = w₂ at hF ⊢
 clear w₁
 try walk_nrm
 refine Goes.step rfl fun w₁ h₁ => ?_
 replace hF := rl hF h₁
 clear h₁
 refine goes_oper_k rfl rfl (by decide) (fun K hK => ?_)
 go_simp
 refine hK _ _ ⟨sd_new (by simp) (fun e he => ?_), ?_⟩
 · have hm := mem_listed he
   simp [go_sem] at hm
 clear hK K
 have hsz : w₁.heap.size = n0 + 2 := hF.size
 replace hF := hF.alloc (.cells #[.chan none] 58)
 simp only [List.nil_append, List.cons_append] at hF
 rw [hsz]
 clear hsz
 generalize w₁.alloc (.cells #[.chan none] 58) = w₂ at hF ⊢
 clear w₁
 try walk_nrm
 refine Goes.step rfl fun w₁ h₁ => ?_
 replace hF := rl hF h₁
 clear h₁
 refine goes_oper_k rfl rfl (by decide) (fun K hK => ?_)
 have h1 := hF.cell (i := 2) rfl
 have hfz := frozen_of (hF.obj 2 _ rfl) 0
 go_simp
 try (unfold stored; go_simp)
 refine hK _ _ ⟨sd_set (a := ⟨n0 + 2, 0, none⟩) (fun hx => by have : n0 + 2 < n0 := hsh _ hx; omega) (cell_lt h1) fun e he => ?_, ?_⟩
 · have hm := mem_listed he
   simp [go_sem, storedEv, h1, hfz] at hm
   exact hm
 clear hK K h1 hfz
 replace hF := hF.set (i := 2) (v := .chan (some (n0 + 1))) rfl
 simp only [List.set_cons_succ, List.set_cons_zero] at hF
 generalize w₁.setCell _ _ = w₂ at hF ⊢
 clear w₁
 try walk_nrm
 repeat ((first | ((first | ((with_reducible refine g_c (k' := ?_) true true hD ?_ ?_); rotate_left; focus exact rfl) | with_reducible refine g_r hD rfl ?_); intro _ h₁; replace hF := rl hF h₁; clear h₁)))
 refine Goes.step rfl fun w₁ h₁ => ?_
 replace hF := rl hF h₁
 clear h₁
 refine goes_oper_k rfl rfl (by decide) (fun K hK => ?_)
 go_simp
 refine hK _ _ ⟨sd_new (by simp) (fun e he => ?_), ?_⟩
 · have hm := mem_listed he
   simp [go_sem] at hm
 clear hK K
 have hsz : w₁.heap.size = n0 + 3 := hF.size
 replace hF := hF.alloc (.cells #[.int .u64 0, .int .u32 0] 66)
 simp only [List.nil_append, List.cons_append] at hF
 rw [hsz]
 clear hsz
 generalize w₁.alloc (.cells #[.int .u64 0, .int .u32 0] 66) = w₂ at hF ⊢
 clear w₁
 try walk_nrm
 (first | ((with_reducible refine g_opG ?_); first | (refine g_unw hD rfl rfl ?_; intro _ h₁; replace hF := rl hF h₁; clear h₁; walk_nrm) | (refine Goes.step rfl ?_; intro _ h₁; replace hF := rl hF h₁; clear h₁; refine goes_oper_k rfl rfl (by k_ne) fun K hK => ?_; go_simp; refine hK _ _ ⟨g_idle hD fun e he => by have hm := mem_listed he; simp [go_sem, *] at hm, ?_⟩; clear hK K; try w_num)) | ((first | ((with_reducible refine g_c (k' := ?_) true true hD ?_ ?_); rotate_left; focus exact rfl) | with_reducible refine g_r hD rfl ?_); intro _ h₁; replace hF := rl hF h₁; clear h₁))
 refine Goes.stop fun w₁ h₁ => ?_
 refine hgo.out _ _ (rl hF h₁) ?_ ?_ ?_ ?_ ?_ ?_ <;> rfl
variable {b₀ : Frame} {a₀ : Act} {ops₀ : Array Oper} {i₀ : Nat} {rest₀ : List Nat} {k₀ : List Item}
set_option maxRecDepth 100000 in
theorem mp_size {Stop : Goroutine → World → Prop} (_hsh : ∀ b, Shun b → b < n0) {k : Int} (hk : k < 1 ∨ 16 < k) {f : Fn} {fr cp : Array Value} {inV : Value} (hF : Fresh n0 w0 Given [] w)
   (hgo : ∀ w, Fresh n0 w0 Given [.cells #[.func f fr cp] 28 (0, 0)] w → Stop (G (b₀.at (a₀.put ((ops₀[i₀]?).bind (·.dst)) (.tuple #[.slice none 0 0, .int .i64 1])) (.inRegion ops₀ rest₀ :: k₀)) cs) w) :
   Goes Try.prog true AtRel (SD Shun) Stop 60 (G ((base 11).at ⟨#[.int .i64 k, .func f fr cp, inV, undef, undef, undef, undef, undef, undef, undef, undef, undef, undef, undef, undef, undef, undef, undef, undef, undef, undef, undef, undef, undef, undef, undef, undef, undef, undef, undef, undef, undef, undef, undef, undef, undef, undef, undef, undef, undef, undef, undef, undef, undef, undef, undef, undef, undef, undef, undef, undef, undef, undef, undef, undef, undef, undef, undef, undef, undef, undef, undef, undef, undef], []⟩ [.code bodyM]) (b₀.at a₀ (.inRegion ops₀ (i₀ :: rest₀) :: k₀) :: cs)) w := by
 have hD : ∀ w, SD Shun w w #[] := sd_idle
 have rl : ∀ {l : List Obj} {w w₁ : World}, Fresh n0 w0 Given l w → AtRel w w₁ → Fresh n0 w0 Given l w₁ := fun h r => Fresh.steady.rel h r
 replace hgo := Hd.mk hgo
 simp only [bodyM, Try.f11, Option.getD_some]
 repeat ((first | ((first | ((with_reducible refine g_c (k' := ?_) true true hD ?_ ?_); rotate_left; focus exact rfl) | with_reducible refine g_r hD rfl ?_); intro _ h₁; replace hF := rl hF h₁; clear h₁)))
 refine Goes.step rfl fun w₁ h₁ => ?_
 replace hF := rl hF h₁
 clear h₁
 refine goes_oper_k rfl rfl (by decide) (fun K hK => ?_)
 go_simp
 refine hK _ _ ⟨sd_new (by simp) (fun e he => ?_), ?_⟩
 · have hm := mem_listed he
   simp [go_sem] at hm
 clear hK K
 replace hF := hF.alloc (.cells #[.func f fr cp] 28)
 simp only [List.nil_append] at hF
 generalize w₁.alloc (.cells #[.func f fr cp] 28) = w₂ at hF ⊢
 generalize w₁.heap.size = n1
 clear w₁
 try walk_nrm
 by_cases h1 : k < 1
 · have hlt : decide (k < 1) = true := decide_eq_true h1
   clear h1 hk
   repeat ((first | ((with_reducible refine g_opG ?_); first | (refine g_unw hD rfl rfl ?_; intro _ h₁; replace hF := rl hF h₁; clear h₁; walk_nrm) | (refine Goes.step rfl ?_; intro _ h₁; replace hF := rl hF h₁; clear h₁; refine goes_oper_k rfl rfl (by k_ne) fun K hK => ?_; go_simp; refine hK _ _ ⟨g_idle hD fun e he => by have hm := mem_listed he; simp [go_sem, *] at hm, ?_⟩; clear hK K; try w_num)) | ((first | ((with_reducible refine g_c (k' := ?_) true true hD ?_ ?_); rotate_left; focus exact rfl) | with_reducible refine g_r hD rfl ?_); intro _ h₁; replace hF := rl hF h₁; clear h₁)))
   refine Goes.step rfl fun w₃ h₃ => ?_
   replace hF := rl hF h₃
   clear h₃
   refine goes_leave2 rfl rfl Try.func11 rfl ⟨sd_idle _, ?_⟩
   exact Goes.stop fun w₄ h₄ => hgo.out _ (rl hF h₄)
 · have hlt : decide (k < 1) = false := decide_eq_false h1
   have hgt : decide (16 < k) = true := decide_eq_true (by omega)
   clear h1 hk
   repeat ((first | ((with_reducible refine g_opG ?_); first | (refine g_unw hD rfl rfl ?_; intro _ h₁; replace hF := rl hF h₁; clear h₁; walk_nrm) | (refine Goes.step rfl ?_; intro _ h₁; replace hF := rl hF h₁; clear h₁; refine goes_oper_k rfl rfl (by k_ne) fun K hK => ?_; go_simp; refine hK _ _ ⟨g_idle hD fun e he => by have hm := mem_listed he; simp [go_sem, *] at hm, ?_⟩; clear hK K; try w_num)) | ((first | ((with_reducible refine g_c (k' := ?_) true true hD ?_ ?_); rotate_left; focus exact rfl) | with_reducible refine g_r hD rfl ?_); intro _ h₁; replace hF := rl hF h₁; clear h₁)))
   refine Goes.step rfl fun w₃ h₃ => ?_
   replace hF := rl hF h₃
   clear h₃
   refine goes_leave2 rfl rfl Try.func11 rfl ⟨sd_idle _, ?_⟩
   exact Goes.stop fun w₄ h₄ => hgo.out _ (rl hF h₄)
set_option maxRecDepth 100000 in
theorem mp_nilf {Stop : Goroutine → World → Prop} (hsh : ∀ b, Shun b → b < n0) {K : Nat} (hK1 : 0 < K) (hK : K ≤ 16) {inV : Value} (hF : Fresh n0 w0 Given [] w)
   (hgo : ∀ w, Fresh n0 w0 Given [.cells #[.nilFunc] 28 (0, 0)] w → Stop (G (b₀.at (a₀.put ((ops₀[i₀]?).bind (·.dst)) (.tuple #[.slice none 0 0, .int .i64 1])) (.inRegion ops₀ rest₀ :: k₀)) cs) w) :
   Goes Try.prog true AtRel (SD Shun) Stop 60 (G ((base 11).at ⟨#[.int .i64 K, .nilFunc, inV, undef, undef, undef, undef, undef, undef, undef, undef, undef, undef, undef, undef, undef, undef, undef, undef, undef, undef, undef, undef, undef, undef, undef, undef, undef, undef, undef, undef, undef, undef, undef, undef, undef, undef, undef, undef, undef, undef, undef, undef, undef, undef, undef, undef, undef, undef, undef, undef, undef, undef, undef, undef, undef, undef, undef, undef, undef, undef, undef, undef, undef], []⟩ [.code bodyM]) (b₀.at a₀ (.inRegion ops₀ (i₀ :: rest₀) :: k₀) :: cs)) w := by
 have hD : ∀ w, SD Shun w w #[] := sd_idle
 have rl : ∀ {l : List Obj} {w w₁ : World}, Fresh n0 w0 Given l w → AtRel w w₁ → Fresh n0 w0 Given l w₁ := fun h r => Fresh.steady.rel h r
 have hlt : decide ((K : Int) < 1) = false := decide_eq_false (by omega)
 have hgt : decide ((16 : Int) < (K : Int)) = false := decide_eq_false (by omega)
 replace hgo := Hd.mk hgo
 simp only [bodyM, Try.f11, Option.getD_some]
 repeat ((first | ((first | ((with_reducible refine g_c (k' := ?_) true true hD ?_ ?_); rotate_left; focus exact rfl) | with_reducible refine g_r hD rfl ?_); intro _ h₁; replace hF := rl hF h₁; clear h₁)))
 refine Goes.step rfl fun w₁ h₁ => ?_
 replace hF := rl hF h₁
 clear h₁
 refine goes_oper_k rfl rfl (by decide) (fun K hK => ?_)
 go_simp
 refine hK _ _ ⟨sd_new (by simp) (fun e he => ?_), ?_⟩
 · have hm := mem_listed he
   simp [go_sem] at hm
 clear hK K
 have hsz : w₁.heap.size = n0 + 0 := hF.size
 replace hF := hF.alloc (.cells #[.nilFunc] 28)
 simp only [List.nil_append] at hF
 rw [hsz]
 clear hsz
 generalize w₁.alloc (.cells #[.nilFunc] 28) = w₂ at hF ⊢
 clear w₁
 try walk_nrm
 repeat ((first | ((with_reducible refine g_opG ?_); first | (refine g_unw hD rfl rfl ?_; intro _ h₁; replace hF := rl hF h₁; clear h₁; walk_nrm) | (refine Goes.step rfl ?_; intro _ h₁; replace hF := rl hF h₁; clear h₁; refine goes_oper_k rfl rfl (by k_ne) fun K hK => ?_; go_simp; refine hK _ _ ⟨g_idle hD fun e he => by have hm := mem_listed he; simp [go_sem, *] at hm, ?_⟩; clear hK K; try w_num)) | ((first | ((with_reducible refine g_c (k' := ?_) true true hD ?_ ?_); rotate_left; focus exact rfl) | with_reducible refine g_r hD rfl ?_); intro _ h₁; replace hF := rl hF h₁; clear h₁)))
 refine Goes.step rfl fun w₁ h₁ => ?_
 replace hF := rl hF h₁
 clear h₁
 refine goes_oper_k rfl rfl (by decide) (fun K hK => ?_)
 have h1 : w₁.cell? ⟨n0, 0, none⟩ = some (.nilFunc) := hF.cell (i := 0) rfl
 go_simp
 refine hK _ _ ⟨sd_read fun e he => ?_, ?_⟩
 · have hm := mem_listed he
   simp [go_sem, h1] at hm
   exact ⟨_, _, _, hm, fun hx => (by have : n0 < n0 := hsh _ hx; omega), cell_lt h1⟩
 clear hK K h1
 try walk_nrm
 repeat ((first | ((with_reducible refine g_opG ?_); first | (refine g_unw hD rfl rfl ?_; intro _ h₁; replace hF := rl hF h₁; clear h₁; walk_nrm) | (refine Goes.step rfl ?_; intro _ h₁; replace hF := rl hF h₁; clear h₁; refine goes_oper_k rfl rfl (by k_ne) fun K hK => ?_; go_simp; refine hK _ _ ⟨g_idle hD fun e he => by have hm := mem_listed he; simp [go_sem, *] at hm, ?_⟩; clear hK K; try w_num)) | ((first | ((with_reducible refine g_c (k' := ?_) true true hD ?_ ?_); rotate_left; focus exact rfl) | with_reducible refine g_r hD rfl ?_); intro _ h₁; replace hF := rl hF h₁; clear h₁)))
 refine Goes.step rfl fun w₃ h₃ => ?_
 replace hF := rl hF h₃
 clear h₃
 refine goes_leave2 rfl rfl Try.func11 rfl ⟨sd_idle _, ?_⟩
 exact Goes.stop fun w₄ h₄ => hgo.out _ (rl hF h₄)
set_option maxRecDepth 100000 in
theorem mp_nili {Stop : Goroutine → World → Prop} (hsh : ∀ b, Shun b → b < n0) {K : Nat} (hK1 : 0 < K) (hK : K ≤ 16) {f : Fn} {fr cp : Array Value} (hF : Fresh n0 w0 Given [] w)
   (hgo : ∀ w, Fresh n0 w0 Given [.cells #[.func f fr cp] 28 (0, 0)] w → Stop (G (b₀.at (a₀.put ((ops₀[i₀]?).bind (·.dst)) (.tuple #[.slice none 0 0, .int .i64 1])) (.inRegion ops₀ rest₀ :: k₀)) cs) w) :
   Goes Try.prog true AtRel (SD Shun) Stop 60 (G ((base 11).at ⟨#[.int .i64 K, .func f fr cp, .nilFunc, undef, undef, undef, undef, undef, undef, undef, undef, undef, undef, undef, undef, undef, undef, undef, undef, undef, undef, undef, undef, undef, undef, undef, undef, undef, undef, undef, undef, undef, undef, undef, undef, undef, undef, undef, undef, undef, undef, undef, undef, undef, undef, undef, undef, undef, undef, undef, undef, undef, undef, undef, undef, undef, undef, undef, undef, undef, undef, undef, undef, undef], []⟩ [.code bodyM]) (b₀.at a₀ (.inRegion ops₀ (i₀ :: rest₀) :: k₀) :: cs)) w := by
 have hD : ∀ w, SD Shun w w #[] := sd_idle
 have rl : ∀ {l : List Obj} {w w₁ : World}, Fresh n0 w0 Given l w → AtRel w w₁ → Fresh n0 w0 Given l w₁ := fun h r => Fresh.steady.rel h r
 have hlt : decide ((K : Int) < 1) = false := decide_eq_false (by omega)
 have hgt : decide ((16 : Int) < (K : Int)) = false := decide_eq_false (by omega)
 replace hgo := Hd.mk hgo
 simp only [bodyM, Try.f11, Option.getD_some]
 repeat ((first | ((first | ((with_reducible refine g_c (k' := ?_) true true hD ?_ ?_); rotate_left; focus exact rfl) | with_reducible refine g_r hD rfl ?_); intro _ h₁; replace hF := rl hF h₁; clear h₁)))
 refine Goes.step rfl fun w₁ h₁ => ?_
 replace hF := rl hF h₁
 clear h₁
 refine goes_oper_k rfl rfl (by decide) (fun K hK => ?_)
 go_simp
 refine hK _ _ ⟨sd_new (by simp) (fun e he => ?_), ?_⟩
 · have hm := mem_listed he
   simp [go_sem] at hm
 clear hK K
 have hsz : w₁.heap.size = n0 + 0 := hF.size
 replace hF := hF.alloc (.cells #[.func f fr cp] 28)
 simp only [List.nil_append] at hF
 rw [hsz]
 clear hsz
 generalize w₁.alloc (.cells #[.func f fr cp] 28) = w₂ at hF ⊢
 clear w₁
 try walk_nrm
 repeat ((first | ((with_reducible refine g_opG ?_); first | (refine g_unw hD rfl rfl ?_; intro _ h₁; replace hF := rl hF h₁; clear h₁; walk_nrm) | (refine Goes.step rfl ?_; intro _ h₁; replace hF := rl hF h₁; clear h₁; refine goes_oper_k rfl rfl (by k_ne) fun K hK => ?_; go_simp; refine hK _ _ ⟨g_idle hD fun e he => by have hm := mem_listed he; simp [go_sem, *] at hm, ?_⟩; clear hK K; try w_num)) | ((first | ((with_reducible refine g_c (k' := ?_) true true hD ?_ ?_); rotate_left; focus exact rfl) | with_reducible refine g_r hD rfl ?_); intro _ h₁; replace hF := rl hF h₁; clear h₁)))
 refine Goes.step rfl fun w₁ h₁ => ?_
 replace hF := rl hF h₁
 clear h₁
 refine goes_oper_k rfl rfl (by decide) (fun K hK => ?_)
 have h1 : w₁.cell? ⟨n0, 0, none⟩ = some (.func f fr cp) := hF.cell (i := 0) rfl
 go_simp
 refine hK _ _ ⟨sd_read fun e he => ?_, ?_⟩
 · have hm := mem_listed he
   simp [go_sem, h1] at hm
   exact ⟨_, _, _, hm, fun hx => (by have : n0 < n0 := hsh _ hx; omega), cell_lt h1⟩
 clear hK K h1
 try walk_nrm
 repeat ((first | ((with_reducible refine g_opG ?_); first | (refine g_unw hD rfl rfl ?_; intro _ h₁; replace hF := rl hF h₁; clear h₁; walk_nrm) | (refine Goes.step rfl ?_; intro _ h₁; replace hF := rl hF h₁; clear h₁; refine goes_oper_k rfl rfl (by k_ne) fun K hK => ?_; go_simp; refine hK _ _ ⟨g_idle hD fun e he => by have hm := mem_listed he; simp [go_sem, *] at hm, ?_⟩; clear hK K; try w_num)) | ((first | ((with_reducible refine g_c (k' := ?_) true true hD ?_ ?_); rotate_left; focus exact rfl) | with_reducible refine g_r hD rfl ?_); intro _ h₁; replace hF := rl hF h₁; clear h₁)))
 refine Goes.step rfl fun w₃ h₃ => ?_
 replace hF := rl hF h₃
 clear h₃
 refine goes_leave2 rfl rfl Try.func11 rfl ⟨sd_idle _, ?_⟩
 exact Goes.stop fun w₄ h₄ => hgo.out _ (rl hF h₄)
end
section
variable {m : MpM} {cs : List Frame} {b₀ : Frame} {a₀ : Act} {ops₀ : Array Oper} {i₀ : Nat} {rest₀ : List Nat} {k₀ : List Item}
theorem map_call (hm : MpMOK m) (hcs : m.cs = b₀.at a₀ (.inRegion ops₀ (i₀ :: rest₀) :: k₀) :: cs) (hn : m.w0.heap.size = m.n0) (hWg : m.q.Wg = m.n0 + 3) (hc0 : m.q.c0 = m.n0 + 1) (h8 : m.e8 = m.n0 + 2) (h4 : m.e4 = m.n0) (hsh : ∀ b, m.Shun b → b < m.n0)
   {f : Fn} {fr cp : Array Value} (hfv : m.q.fv = .func f fr cp) :
   Lone Try.prog m.n0 (fun S g w => (∀ b, S b → m.Shun b ∨ b = m.n0 + 3) ∧ ∃ v, MpRes m v w ∧ g = G (b₀.at (a₀.put ((ops₀[i₀]?).bind (·.dst)) (.tuple #[v, .int .i64 0])) (.inRegion ops₀ rest₀ :: k₀)) cs) m.Shun
     (G ((base 11).at ⟨#[.int .i64 m.q.K, m.q.fv, m.inV, undef, undef, undef, undef, undef, undef, undef, undef, undef, undef, undef, undef, undef, undef, undef, undef, undef, undef, undef, undef, undef, undef, undef, undef, undef, undef, undef, undef, undef, undef, undef, undef, undef, undef, undef, undef, undef, undef, undef, undef, undef, undef, undef, undef, undef, undef, undef, undef, undef, undef, undef, undef, undef, undef, undef, undef, undef, undef, undef, undef, undef], []⟩ [.code bodyM]) m.cs) m.w0 := by
 obtain ⟨kl, sa, cap, hi⟩ := hm.it
 have hfr : Fresh m.n0 m.w0 (fun b _ => m.Shun b) [] m.w0 := ⟨Out.refl (Nat.le_of_eq hn.symm), by simpa using hn, fun i o h => by simp at h⟩
 rw [hi.fv, hfv]
 refine Lone.on (n := 60) (mp_open (cs := m.cs) (n0 := m.n0) (w0 := m.w0) (Given := fun b _ => m.Shun b) hsh hm.one hm.few hfr fun T w2 hF2 hs t0 t2 t4 t8 t9 _ => ?_)
 have hMW : MW0 m w2 := by
   refine ⟨?_, ?_, ?_, ⟨#[.chan (some (m.n0 + 1))], ?_⟩, ⟨#[.func f fr cp], ?_⟩, ?_, hF2.out, ⟨by omega, by omega, by omega⟩, hsh⟩
   · rw [hWg]; exact hF2.obj 3 _ rfl
   · rw [h8, hc0]; exact hF2.cell (i := 2) rfl
   · rw [h4, hfv]; exact hF2.cell (i := 0) rfl
   · rw [h8]; exact hF2.obj 2 _ rfl
   · rw [h4]; exact hF2.obj 0 _ rfl
   · rw [hc0]; exact hF2.obj 1 _ rfl
 have hT : HTk m T := ⟨hs, t0, by rw [t2, hi.fv]; rfl, by rw [t4, h4], by rw [t8, h8], by rw [t9, hWg]⟩
 refine (mp_phase hm hMW hT).bind fun S a3 w3 _ h => ?_
 obtain ⟨hS, e10, T3, d, hT3, hE, hG⟩ := h
 have hsh' : ∀ b, S b → b < m.n0 ∨ b = m.q.Wg := fun b hb => (hS b hb).imp (hsh b) id
 rw [hcs] at hG
 refine Lone.on (n := 20) (goes_imp (fun g w hg _ => ?_) (hG S))
 obtain ⟨rfl, hr⟩ := hg
 refine Lone.on (n := 40) (col_first hm hsh' hT3 (MpEnd.steady.rel hE hr) fun T4 fa cap4 ps w4 hT4 hC hE4 _ => ?_)
 refine (col_loop hm hsh' hC m.xs.length 0 T4 _ w4 (by omega) hT4 ⟨Nat.le_refl _, fun _ _ => rfl, rfl, rfl, rfl, ⟨by simp, .inl ⟨rfl, rfl⟩⟩, fun g hg => by cases hg⟩).bind fun S5 a5 w5 _ h5 => ?_
 obtain ⟨rfl, h5⟩ := h5
 refine Lone.goes (n := 40) (col_last (b₀ := b₀) (a₀ := a₀) (ops₀ := ops₀) (i₀ := i₀) (rest₀ := rest₀) (k₀ := k₀) hm hE4 (Array.getElem?_eq_some_iff.1 hE4.dfr).1 h5 fun v w hR => ⟨fun b hb => (hS b hb).imp id fun e => e.trans hWg, v, hR, rfl⟩)
end
end Go.Proofs.Ytblpmdolclalnaa
