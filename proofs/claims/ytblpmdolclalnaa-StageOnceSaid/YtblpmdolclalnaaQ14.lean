/- Chain[int], goroutine 0: at the group's Add ahead of a forwarder; from the loop's head to there. Made by gen_cmc.py. Chain[int], goroutine 0: from the loop's head, all forwarders being hired, to the group's Add ahead of the sink. Made by gen_cmd.py. Chain[int], goroutine 0: the go statement of a forwarder; from there to the loop's head. Made by gen_cme.py. Chain[int], .. -/
import Derived.Test.YtblpmdolclalnaaQ09
import Derived.Test.YtblpmdolclalnaaQ13
set_option maxHeartbeats 16000000
set_option linter.unusedSimpArgs false
set_option linter.unusedVariables false
namespace Go.Proofs.Ytblpmdolclalnaa
open Go.Conc Go.RowKit Go.Conc.Lib Go.ConcR.Gen Go.ConcN.Gen
open Go.ConcR (WgAt KK stA smA rd wr mk DC0)
open Go.ConcN (WgLive)
theorem array49 (T : Array Value) (h : T.size = 49) : ∃ v0 v1 v2 v3 v4 v5 v6 v7 v8 v9 v10 v11 v12 v13 v14 v15 v16 v17 v18 v19 v20 v21 v22 v23 v24 v25 v26 v27 v28 v29 v30 v31 v32 v33 v34 v35 v36 v37 v38 v39 v40 v41 v42 v43 v44 v45 v46 v47 v48, T = #[v0, v1, v2, v3, v4, v5, v6, v7, v8, v9, v10, v11, v12, v13, v14, v15, v16, v17, v18, v19, v20, v21, v22, v23, v24, v25, v26, v27, v28, v29, v30, v31, v32, v33, v34, v35, v36, v37, v38, v39, v40, v41, v42, v43, v44, v45, v46, v47, v48] := by
 obtain ⟨l⟩ := T
 simp only [List.size_toArray] at h
 rcases l with _ | ⟨v0, l⟩
 · simp at h
 rcases l with _ | ⟨v1, l⟩
 · simp at h
 rcases l with _ | ⟨v2, l⟩
 · simp at h
 rcases l with _ | ⟨v3, l⟩
 · simp at h
 rcases l with _ | ⟨v4, l⟩
 · simp at h
 rcases l with _ | ⟨v5, l⟩
 · simp at h
 rcases l with _ | ⟨v6, l⟩
 · simp at h
 rcases l with _ | ⟨v7, l⟩
 · simp at h
 rcases l with _ | ⟨v8, l⟩
 · simp at h
 rcases l with _ | ⟨v9, l⟩
 · simp at h
 rcases l with _ | ⟨v10, l⟩
 · simp at h
 rcases l with _ | ⟨v11, l⟩
 · simp at h
 rcases l with _ | ⟨v12, l⟩
 · simp at h
 rcases l with _ | ⟨v13, l⟩
 · simp at h
 rcases l with _ | ⟨v14, l⟩
 · simp at h
 rcases l with _ | ⟨v15, l⟩
 · simp at h
 rcases l with _ | ⟨v16, l⟩
 · simp at h
 rcases l with _ | ⟨v17, l⟩
 · simp at h
 rcases l with _ | ⟨v18, l⟩
 · simp at h
 rcases l with _ | ⟨v19, l⟩
 · simp at h
 rcases l with _ | ⟨v20, l⟩
 · simp at h
 rcases l with _ | ⟨v21, l⟩
 · simp at h
 rcases l with _ | ⟨v22, l⟩
 · simp at h
 rcases l with _ | ⟨v23, l⟩
 · simp at h
 rcases l with _ | ⟨v24, l⟩
 · simp at h
 rcases l with _ | ⟨v25, l⟩
 · simp at h
 rcases l with _ | ⟨v26, l⟩
 · simp at h
 rcases l with _ | ⟨v27, l⟩
 · simp at h
 rcases l with _ | ⟨v28, l⟩
 · simp at h
 rcases l with _ | ⟨v29, l⟩
 · simp at h
 rcases l with _ | ⟨v30, l⟩
 · simp at h
 rcases l with _ | ⟨v31, l⟩
 · simp at h
 rcases l with _ | ⟨v32, l⟩
 · simp at h
 rcases l with _ | ⟨v33, l⟩
 · simp at h
 rcases l with _ | ⟨v34, l⟩
 · simp at h
 rcases l with _ | ⟨v35, l⟩
 · simp at h
 rcases l with _ | ⟨v36, l⟩
 · simp at h
 rcases l with _ | ⟨v37, l⟩
 · simp at h
 rcases l with _ | ⟨v38, l⟩
 · simp at h
 rcases l with _ | ⟨v39, l⟩
 · simp at h
 rcases l with _ | ⟨v40, l⟩
 · simp at h
 rcases l with _ | ⟨v41, l⟩
 · simp at h
 rcases l with _ | ⟨v42, l⟩
 · simp at h
 rcases l with _ | ⟨v43, l⟩
 · simp at h
 rcases l with _ | ⟨v44, l⟩
 · simp at h
 rcases l with _ | ⟨v45, l⟩
 · simp at h
 rcases l with _ | ⟨v46, l⟩
 · simp at h
 rcases l with _ | ⟨v47, l⟩
 · simp at h
 rcases l with _ | ⟨v48, l⟩
 · simp at h
 rcases l with _ | ⟨v49, l⟩
 · exact ⟨v0, v1, v2, v3, v4, v5, v6, v7, v8, v9, v10, v11, v12, v13, v14, v15, v16, v17, v18, v19, v20, v21, v22, v23, v24, v25, v26, v27, v28, v29, v30, v31, v32, v33, v34, v35, v36, v37, v38, v39, v40, v41, v42, v43, v44, v45, v46, v47, v48, rfl⟩
 · simp at h
structure HTl (m : ChM) (p e7 e8 : Nat) (T : Array Value) : Prop where
 size : T.size = 49
 t0 : T[0]? = some m.inV
 t6 : T[6]? = some (ptr m.q.Wg)
 t7 : T[7]? = some (ptr e7)
 t8 : T[8]? = some (ptr e8)
 t28 : T[28]? = some m.fsV
 t29 : T[29]? = some (.int .i64 m.q.nf)
 t30 : T[30]? = some (.int .i64 p)
structure HTf (m : ChM) (p e7 e8 e10 e11 e12 co : Nat) (T : Array Value) : Prop where
 l : HTl m p e7 e8 T
 t10 : T[10]? = some (ptr e10)
 t11 : T[11]? = some (ptr e11)
 t12 : T[12]? = some (ptr e12)
 t35 : T[35]? = some (.chan (some co))
def R9t (m : ChM) (own : Nat → Prop) (Given : Cells) (Fz : Nat → Prop) (p e7 e8 e10 ci co e11 e12 : Nat) (w : World) : Prop := R9 m own Given Fz p e7 e8 e10 ci true true true true true co e11 e12 w
def HireF (m : ChM) (own : Nat → Prop) (Given : Cells) (Fz : Nat → Prop) (p ci co : Nat) (env : List Nat) (g : Goroutine) (w : World) : Prop :=
 ∃ T e7 e8 e10 e11 e12, env = [e12, e11, e10] ∧ HTf m p e7 e8 e10 e11 e12 co T ∧ CG m own Given Fz p e7 e8 ∧ p < m.q.nf ∧ ci < co ∧
   AddKd Try.prog 66 m.q.Wg (MR 66 m.q.Wg own Given) (MD m.q.Wg own Given Fz) (R9t m own Given Fz p e7 e8 e10 ci co e11 e12) (G ((base 16).at ⟨T.setIfInBounds 36 (.tuple #[]), []⟩ (.inRegion ops10 [] :: k10)) m.cs) ((base 16).at ⟨T, []⟩ (.inRegion ops10 [0] :: k10) :: m.cs) g w
section
variable {m : ChM} {own : Nat → Prop} {Given : Cells} {Fz : Nat → Prop} {p e7 e8 e10 ci co e11 e12 : Nat} {w w₁ : World}
theorem fits_R9 (g : CG m own Given Fz p e7 e8) : Fits 66 m.q.Wg (MR 66 m.q.Wg own Given) (MD m.q.Wg own Given Fz) (R9t m own Given Fz p e7 e8 e10 ci co e11 e12) :=
 fits_main g.wg fun _ _ r h => R9.rely g h r
structure R8 (m : ChM) (own : Nat → Prop) (Given : Cells) (Fz : Nat → Prop) (p e7 e8 e10 ci : Nat) (w : World) : Prop where
 cw : CW m Given Fz p e7 e8 ci w
 b10 : Box1 m own Given Fz e7 e8 28 e10 w
theorem R8.rely (g : CG m own Given Fz p e7 e8) (h : R8 m own Given Fz p e7 e8 e10 ci w) (r : MR 66 m.q.Wg own Given w w₁) : R8 m own Given Fz p e7 e8 e10 ci w₁ := ⟨h.cw.rely g r, h.b10.rely r⟩
theorem R8.fill (h : R8 m own Given Fz p e7 e8 e10 ci w) : R9 m own Given Fz p e7 e8 e10 ci false false false false false 0 0 0 (w.setCell ⟨e10, 0, none⟩ (m.q.fv p)) := by
 obtain ⟨cs, hc⟩ := h.b10.typ
 have hf := h.b10.fill (m.q.fv p)
 exact ⟨h.cw.set hc (by decide) h.b10.low h.b10.n7.1 h.b10.n7.2, hf.1, hf.2, by simp, by simp, by simp, by simp, by simp, by simp, by simp, by simp⟩
set_option maxRecDepth 100000 in
theorem head_fwd (hm : ChMOK m) (g : CG m own Given Fz p e7 e8) (hp : p < m.q.nf) {Stop : Goroutine → World → Prop} {v1 v2 v3 v4 v5 v9 v10 v11 v12 v13 v14 v15 v16 v17 v18 v19 v20 v21 v22 v23 v24 v25 v26 v27 v31 v32 v33 v34 v35 v36 v37 v38 v39 v40 v41 v42 v43 v44 v45 v46 v47 v48 : Value} (hF : CW m Given Fz p e7 e8 ci w)
   (hS : ∀ g w co env, HireF m own Given Fz p ci co env g w → Stop g w) :
   Goo Try.prog true own (MR 66 m.q.Wg own Given) (MD m.q.Wg own Given Fz) Stop 100 (G ((base 16).at ⟨#[m.inV, v1, v2, v3, v4, v5, ptr m.q.Wg, ptr e7, ptr e8, v9, v10, v11, v12, v13, v14, v15, v16, v17, v18, v19, v20, v21, v22, v23, v24, v25, v26, v27, m.fsV, .int .i64 m.q.nf, .int .i64 p, v31, v32, v33, v34, v35, v36, v37, v38, v39, v40, v41, v42, v43, v44, v45, v46, v47, v48], []⟩ (.code lp16 :: .inLoop lp16 :: .inBlock 0 :: [.code (tl16 6)])) m.cs) w := by
 have hD : ∀ w, MD m.q.Wg own Given Fz w w #[] := fun w => Gua.idle w
 have rl : ∀ {w w₁ : World}, CW m Given Fz p e7 e8 ci w → MR 66 m.q.Wg own Given w w₁ → CW m Given Fz p e7 e8 ci w₁ := fun h r => h.rely g r
 obtain ⟨fa, cap, hfs, hel⟩ := hm.fs
 obtain ⟨bf, o, hfa, hbf, hsh, hgv, hcell⟩ := hel p hp
 subst hfa
 have hlt : decide ((p : Int) < (m.q.nf : Int)) = true := decide_eq_true (by omega)
 simp only [lp16, tl16, cS, cF, cI, body16, Try.f16, Option.getD_some]
 refine Goo.on (MR.refl' _) (n := 30) (m := 70) ?_
 try walk_nrm
 repeat ((first | ((with_reducible refine g_opG ?_); first | (refine g_unw hD rfl rfl ?_; intro _ h₁; replace hF := rl hF h₁; clear h₁; walk_nrm) | (refine Goes.step rfl ?_; intro _ h₁; replace hF := rl hF h₁; clear h₁; refine goes_oper_k rfl rfl (by k_ne) fun K hK => ?_; go_simp; refine hK _ _ ⟨g_idle hD fun e he => by have hm := mem_listed he; simp [go_sem, *] at hm, ?_⟩; clear hK K; try w_num)) | ((first | ((with_reducible refine g_c (k' := ?_) true true hD ?_ ?_); rotate_left; focus exact rfl) | with_reducible refine g_r hD rfl ?_); intro _ h₁; replace hF := rl hF h₁; clear h₁)))
 (refine Goes.step rfl (fun _ h₁ => ?_); replace hF := rl hF h₁; clear h₁)
 refine goes_oper_k rfl rfl (by decide) (fun K hK => ?_)
 obtain ⟨h1, h2, h3⟩ := hF.outer g hbf hsh hgv hcell
 go_simp
 refine hK _ _ ⟨gua_read fun e he => ?_, ?_⟩
 · have hm := mem_listed he
   simp [go_sem, h1] at hm
   exact ⟨_, hm, cell_lt h1, .inr ⟨h2, h3⟩⟩
 clear hK K h1 h2 h3
 try walk_nrm
 refine Goes.stop fun w₁ h₁ => ?_
 replace hF := rl hF h₁
 clear h₁
 refine Goo.mono (Goo.step (n := 60) rfl fun w₂ h₂ => ?_) (by omega)
 replace hF := rl hF h₂
 clear h₂
 refine goes_oper_k rfl rfl (by decide) (fun K hK => ?_)
 go_simp
 refine hK _ _ ⟨gua_but (S := fun _ => False) (fun _ h => h.elim) (by simp) (fun b hb _ => heap_alloc_old _ _ b hb) (fun _ _ h => h.elim) rfl rfl rfl (fun e he => ?_), fun hnew => ?_⟩
 · have hm := mem_listed he
   simp [go_sem] at hm
 clear hK K
 have hb10 : own w₂.heap.size := hnew _ (Nat.le_refl _) (by simp)
 replace hF : R8 m own Given Fz p e7 e8 w₂.heap.size ci (w₂.alloc (.cells #[.nilFunc] 28)) := ⟨hF.alloc _, Box1.new hF hb10⟩
 clear hnew hb10
 generalize w₂.alloc (.cells #[.nilFunc] 28) = w₃ at hF ⊢
 generalize w₂.heap.size = e10 at hF ⊢
 clear w₂
 refine Goo.mono (Goo.step (n := 55) rfl fun w₄ h₄ => ?_) (by omega)
 replace hF := hF.rely g h₄
 clear h₄
 refine goes_oper_k rfl rfl (by decide) (fun K hK => ?_)
 obtain ⟨cs, hc⟩ := hF.b10.typ
 obtain ⟨v₀, h0⟩ := hF.b10.cell
 have hfz := frozen_of hc 0
 obtain ⟨f, fr, cp, hfn⟩ := hm.fn p hp
 rw [hfn]
 go_simp
 try (unfold stored; go_simp)
 rw [← hfn]
 refine hK _ _ ⟨gua_write (a := ⟨e10, 0, none⟩) rfl hc ⟨hF.b10.own, hF.b10.given 0, hF.b10.fz⟩ fun e he => ?_, fun hn => ?_⟩
 · have hm := mem_listed he
   simp [go_sem, hfn, storedEv, h0, hfz] at hm
   exact hm
 clear hK K hc h0 hfz hn
 replace hF := hF.fill
 clear cs v₀ w₃ hfn f fr cp
 generalize w₄.setCell ⟨e10, 0, none⟩ (m.q.fv p) = w₅ at hF ⊢
 clear w₄
 try walk_nrm
 have rl9 : ∀ {w w₁ : World}, R9 m own Given Fz p e7 e8 e10 ci false false false false false 0 0 0 w → MR 66 m.q.Wg own Given w w₁ → R9 m own Given Fz p e7 e8 e10 ci false false false false false 0 0 0 w₁ := fun h r => h.rely g r
 refine Goo.mono (Goo.on (MR.refl' _) (n := 4) (m := 50) ?_) (by omega)
 repeat ((first | ((with_reducible refine g_opG ?_); first | (refine g_unw hD rfl rfl ?_; intro _ h₁; replace hF := rl9 hF h₁; clear h₁; walk_nrm) | (refine Goes.step rfl ?_; intro _ h₁; replace hF := rl9 hF h₁; clear h₁; refine goes_oper_k rfl rfl (by k_ne) fun K hK => ?_; go_simp; refine hK _ _ ⟨g_idle hD fun e he => by have hm := mem_listed he; simp [go_sem, *] at hm, ?_⟩; clear hK K; try w_num)) | ((first | ((with_reducible refine g_c (k' := ?_) true true hD ?_ ?_); rotate_left; focus exact rfl) | with_reducible refine g_r hD rfl ?_); intro _ h₁; replace hF := rl9 hF h₁; clear h₁)))
 refine Goes.stop fun w₁ h₁ => ?_
 replace hF := rl9 hF h₁
 clear h₁ w₅
 refine Goo.mono (goo_draw (n := 49) (by kernel_rfl) (fun w => Gua.draw w) fun w₂ h₂ t => ?_) (by omega)
 rw [← hfs]
 refine draw9 (n := 43) g (fun w co e11 e12 hF => ?_) t _ (rl9 hF (draw_relyM h₂))
 clear rl9 rl
 have rlt : ∀ {w w₁ : World}, R9t m own Given Fz p e7 e8 e10 ci co e11 e12 w → MR 66 m.q.Wg own Given w w₁ → R9t m own Given Fz p e7 e8 e10 ci co e11 e12 w₁ := fun h r => R9.rely g h r
 replace hF : R9t m own Given Fz p e7 e8 e10 ci co e11 e12 w := hF
 simp only [k9, kl16, ops9, lp16, bd16, tl16, cS, cF, cI, cO, body16, Try.f16, Option.getD_some]
 refine Goo.on (MR.refl' _) (n := 8) (m := 35) ?_
 repeat ((first | ((first | ((with_reducible refine g_c (k' := ?_) true true hD ?_ ?_); rotate_left; focus exact rfl) | with_reducible refine g_r hD rfl ?_); intro _ h₁; replace hF := rlt hF h₁; clear h₁)))
 (refine Goes.step rfl (fun _ h₁ => ?_); replace hF := rlt hF h₁; clear h₁)
 refine goes_call rfl rfl (by k_ne) rfl (Try.wgLib.f_add) (nm_add Try.link) (c := body_add Try.link) rfl ⟨by exact hD _, ?_⟩
 walk_nrmf addFn
 refine Goes.stop fun w₁ h₁ => ?_
 replace hF := rlt hF h₁
 refine Goo.mono (n := 12) (Goo.imp ?_ (Goo.of_goes (wg_add Try.wgLib (fits_R9 g) w₁ ⟨hF, hF.cw.live⟩))) (by decide)
 intro g' w' h
 refine hS _ _ co [e12, e11, e10] ⟨_, e7, e8, e10, e11, e12, rfl, ?_, g, hp, (hF.ch rfl).2, h⟩
 exact ⟨⟨rfl, rfl, rfl, rfl, rfl, rfl, rfl, rfl⟩, rfl, rfl, rfl, rfl⟩
end
noncomputable def ops15 : Array Oper := cO (cF (tl16 7))
noncomputable def k15 : List Item := [.code (tl16 8)]
structure HTs (m : ChM) (e7 e8 e13 : Nat) (T : Array Value) : Prop where
 size : T.size = 49
 t0 : T[0]? = some m.inV
 t6 : T[6]? = some (ptr m.q.Wg)
 t7 : T[7]? = some (ptr e7)
 t8 : T[8]? = some (ptr e8)
 t13 : T[13]? = some (ptr e13)
 low : m.n0 ≤ e13
structure RS (m : ChM) (own : Nat → Prop) (Given : Cells) (Fz : Nat → Prop) (e7 e8 ci e13 : Nat) (w : World) : Prop where
 cw : CW m Given Fz m.q.nf e7 e8 ci w
 b13 : Box1 m own Given Fz e7 e8 22 e13 w
 c13 : w.cell? ⟨e13, 0, none⟩ = some (.slice none 0 0)
def HireS (m : ChM) (own : Nat → Prop) (Given : Cells) (Fz : Nat → Prop) (ci : Nat) (env : List Nat) (g : Goroutine) (w : World) : Prop :=
 ∃ T e7 e8 e13, env = [e8, e13] ∧ HTs m e7 e8 e13 T ∧ CG m own Given Fz m.q.nf e7 e8 ∧
   AddKd Try.prog 66 m.q.Wg (MR 66 m.q.Wg own Given) (MD m.q.Wg own Given Fz) (RS m own Given Fz e7 e8 ci e13) (G ((base 16).at ⟨T.setIfInBounds 40 (.tuple #[]), []⟩ (.inRegion ops15 [] :: k15)) m.cs) ((base 16).at ⟨T, []⟩ (.inRegion ops15 [0] :: k15) :: m.cs) g w
section
variable {m : ChM} {own : Nat → Prop} {Given : Cells} {Fz : Nat → Prop} {e7 e8 ci e13 : Nat} {w w₁ : World}
theorem RS.rely (g : CG m own Given Fz m.q.nf e7 e8) (h : RS m own Given Fz e7 e8 ci e13 w) (r : MR 66 m.q.Wg own Given w w₁) : RS m own Given Fz e7 e8 ci e13 w₁ :=
 ⟨h.cw.rely g r, h.b13.rely r, (r.cell e13 0 (cell_lt h.c13) ⟨h.b13.own, h.b13.given 0⟩).trans h.c13⟩
theorem fits_RS (g : CG m own Given Fz m.q.nf e7 e8) : Fits 66 m.q.Wg (MR 66 m.q.Wg own Given) (MD m.q.Wg own Given Fz) (RS m own Given Fz e7 e8 ci e13) :=
 fits_main g.wg fun _ _ r h => RS.rely g h r
set_option maxRecDepth 100000 in
theorem head_snk (g : CG m own Given Fz m.q.nf e7 e8) {Stop : Goroutine → World → Prop} {v1 v2 v3 v4 v5 v9 v10 v11 v12 v13 v14 v15 v16 v17 v18 v19 v20 v21 v22 v23 v24 v25 v26 v27 v31 v32 v33 v34 v35 v36 v37 v38 v39 v40 v41 v42 v43 v44 v45 v46 v47 v48 : Value} (hF : CW m Given Fz m.q.nf e7 e8 ci w)
   (hS : ∀ g w env, HireS m own Given Fz ci env g w → Stop g w) :
   Goo Try.prog true own (MR 66 m.q.Wg own Given) (MD m.q.Wg own Given Fz) Stop 100 (G ((base 16).at ⟨#[m.inV, v1, v2, v3, v4, v5, ptr m.q.Wg, ptr e7, ptr e8, v9, v10, v11, v12, v13, v14, v15, v16, v17, v18, v19, v20, v21, v22, v23, v24, v25, v26, v27, m.fsV, .int .i64 m.q.nf, .int .i64 m.q.nf, v31, v32, v33, v34, v35, v36, v37, v38, v39, v40, v41, v42, v43, v44, v45, v46, v47, v48], []⟩ (.code lp16 :: .inLoop lp16 :: .inBlock 0 :: [.code (tl16 6)])) m.cs) w := by
 have hD : ∀ w, MD m.q.Wg own Given Fz w w #[] := fun w => Gua.idle w
 have rl : ∀ {w w₁ : World}, CW m Given Fz m.q.nf e7 e8 ci w → MR 66 m.q.Wg own Given w w₁ → CW m Given Fz m.q.nf e7 e8 ci w₁ := fun h r => h.rely g r
 have hlt : decide ((m.q.nf : Int) < (m.q.nf : Int)) = false := decide_eq_false (by omega)
 simp only [lp16, tl16, cS, cF, cI, body16, Try.f16, Option.getD_some]
 refine Goo.on (MR.refl' _) (n := 30) (m := 70) ?_
 try walk_nrm
 repeat ((first | ((with_reducible refine g_opG ?_); first | (refine g_unw hD rfl rfl ?_; intro _ h₁; replace hF := rl hF h₁; clear h₁; walk_nrm) | (refine Goes.step rfl ?_; intro _ h₁; replace hF := rl hF h₁; clear h₁; refine goes_oper_k rfl rfl (by k_ne) fun K hK => ?_; go_simp; refine hK _ _ ⟨g_idle hD fun e he => by have hm := mem_listed he; simp [go_sem, *] at hm, ?_⟩; clear hK K; try w_num)) | ((first | ((with_reducible refine g_c (k' := ?_) true true hD ?_ ?_); rotate_left; focus exact rfl) | with_reducible refine g_r hD rfl ?_); intro _ h₁; replace hF := rl hF h₁; clear h₁)))
 refine Goes.stop fun w₁ h₁ => ?_
 replace hF := rl hF h₁
 clear h₁
 refine Goo.mono (Goo.step (n := 60) rfl fun w₂ h₂ => ?_) (by omega)
 replace hF := rl hF h₂
 clear h₂
 refine goes_oper_k rfl rfl (by decide) (fun K hK => ?_)
 go_simp
 refine hK _ _ ⟨gua_but (S := fun _ => False) (fun _ h => h.elim) (by simp) (fun b hb _ => heap_alloc_old _ _ b hb) (fun _ _ h => h.elim) rfl rfl rfl (fun e he => ?_), fun hnew => ?_⟩
 · have hm := mem_listed he
   simp [go_sem] at hm
 clear hK K
 have hb13 : own w₂.heap.size := hnew _ (Nat.le_refl _) (by simp)
 replace hF : RS m own Given Fz e7 e8 ci w₂.heap.size (w₂.alloc (.cells #[.slice none 0 0] 22)) := ⟨hF.alloc _, Box1.new hF hb13, by
   have hn := heap_alloc_new w₂ (Obj.cells #[Value.slice none 0 0] 22)
   unfold World.cell?; rw [hn]; rfl⟩
 clear hnew hb13 rl
 generalize w₂.alloc (.cells #[.slice none 0 0] 22) = w₃ at hF ⊢
 generalize w₂.heap.size = e13 at hF ⊢
 clear w₂
 have rlt : ∀ {w w₁ : World}, RS m own Given Fz e7 e8 ci e13 w → MR 66 m.q.Wg own Given w w₁ → RS m own Given Fz e7 e8 ci e13 w₁ := fun h r => RS.rely g h r
 refine Goo.mono (Goo.on (MR.refl' _) (n := 8) (m := 35) ?_) (by omega)
 try walk_nrm
 repeat ((first | ((first | ((with_reducible refine g_c (k' := ?_) true true hD ?_ ?_); rotate_left; focus exact rfl) | with_reducible refine g_r hD rfl ?_); intro _ h₁; replace hF := rlt hF h₁; clear h₁)))
 (refine Goes.step rfl (fun _ h₁ => ?_); replace hF := rlt hF h₁; clear h₁)
 refine goes_call rfl rfl (by k_ne) rfl (Try.wgLib.f_add) (nm_add Try.link) (c := body_add Try.link) rfl ⟨by exact hD _, ?_⟩
 walk_nrmf addFn
 refine Goes.stop fun w₁ h₁ => ?_
 replace hF := rlt hF h₁
 refine Goo.mono (n := 12) (Goo.imp ?_ (Goo.of_goes (wg_add Try.wgLib (fits_RS g) w₁ ⟨hF, hF.cw.live⟩))) (by decide)
 intro g' w' h
 refine hS _ _ [e8, e13] ⟨_, e7, e8, e13, rfl, ?_, g, h⟩
 exact ⟨rfl, rfl, rfl, rfl, rfl, rfl, hF.b13.low⟩
end
def AtHead (m : ChM) (Given : Cells) (Fz : Nat → Prop) (p e7 e8 ci : Nat) (g : Goroutine) (w : World) : Prop :=
 ∃ T, HTl m p e7 e8 T ∧ g = G ((base 16).at ⟨T, []⟩ (.code lp16 :: .inLoop lp16 :: .inBlock 0 :: [.code (tl16 6)])) m.cs ∧ CW m Given Fz p e7 e8 ci w
structure R12 (m : ChM) (own : Nat → Prop) (Given : Cells) (Fz : Nat → Prop) (p e7 e8 ci co e12 : Nat) (w : World) : Prop where
 cw : CW m Given Fz p e7 e8 ci w
 c12 : w.cell? ⟨e12, 0, none⟩ = some (.chan (some co))
 o12 : own e12 ∧ ¬ Given e12 0
 lt : co < w.heap.size
 low : m.n0 ≤ co
section
variable {m : ChM} {own : Nat → Prop} {Given : Cells} {Fz : Nat → Prop} {p e7 e8 e10 ci co e11 e12 : Nat} {w w₁ : World}
theorem R12.rely (g : CG m own Given Fz p e7 e8) (h : R12 m own Given Fz p e7 e8 ci co e12 w) (r : MR 66 m.q.Wg own Given w w₁) : R12 m own Given Fz p e7 e8 ci co e12 w₁ :=
 ⟨h.cw.rely g r, (r.cell e12 0 (cell_lt h.c12) h.o12).trans h.c12, h.o12, Nat.lt_of_lt_of_le h.lt r.size, h.low⟩
set_option maxRecDepth 100000 in
theorem after_fwd (hm : ChMOK m) {q : Nat} (g : CG m own Given Fz (q + 1) e7 e8) (hp : q < m.q.nf) {T : Array Value} (hT : HTf m q e7 e8 e10 e11 e12 co T) (hF : R12 m own Given Fz (q + 1) e7 e8 ci co e12 w) :
   Goo Try.prog true own (MR 66 m.q.Wg own Given) (MD m.q.Wg own Given Fz) (AtHead m Given Fz (q + 1) e7 e8 co) 40
     (G ((base 16).at ⟨((T.setIfInBounds 36 (.tuple #[])).setIfInBounds 37 (.func (.func 35) #[] #[ptr m.q.Wg, ptr e12, ptr e11, ptr e10])), []⟩ (.inRegion (cO (cF (cS (cS (cS bd16))))) [] :: .code (cS (cS (cS (cS bd16)))) :: kl16)) m.cs) w := by
 have hD : ∀ w, MD m.q.Wg own Given Fz w w #[] := fun w => Gua.idle w
 have rl : ∀ {w w₁ : World}, R12 m own Given Fz (q + 1) e7 e8 ci co e12 w → MR 66 m.q.Wg own Given w w₁ → R12 m own Given Fz (q + 1) e7 e8 ci co e12 w₁ := fun h r => h.rely g r
 obtain ⟨⟨hs, t0, t6, t7, t8, t28, t29, t30⟩, t10, t11, t12, t35⟩ := hT
 obtain ⟨v0, v1, v2, v3, v4, v5, v6, v7, v8, v9, v10, v11, v12, v13, v14, v15, v16, v17, v18, v19, v20, v21, v22, v23, v24, v25, v26, v27, v28, v29, v30, v31, v32, v33, v34, v35, v36, v37, v38, v39, v40, v41, v42, v43, v44, v45, v46, v47, v48, rfl⟩ := array49 T hs
 simp only [List.getElem?_toArray, List.getElem?_cons_zero, List.getElem?_cons_succ, Option.some.injEq] at t0 t6 t7 t8 t28 t29 t30 t10 t11 t12 t35
 subst t0 t6 t7 t8 t28 t29 t30 t10 t11 t12 t35
 clear hs
 have hfew := hm.few
 have hadd : IntKind.i64.wrap ((q : Int) + 1) = ((q + 1 : Nat) : Int) := by rw [IntKind.wrap_i64]; omega
 simp only [kl16, lp16, bd16, tl16, cS, cF, cI, cO, body16, Try.f16, Option.getD_some]
 refine Goo.of_goes (n := 40) ?_
 try walk_nrm
 repeat ((first | ((with_reducible refine g_opG ?_); first | (refine g_unw hD rfl rfl ?_; intro _ h₁; replace hF := rl hF h₁; clear h₁; walk_nrm) | (refine Goes.step rfl ?_; intro _ h₁; replace hF := rl hF h₁; clear h₁; refine goes_oper_k rfl rfl (by k_ne) fun K hK => ?_; go_simp; refine hK _ _ ⟨g_idle hD fun e he => by have hm := mem_listed he; simp [go_sem, *] at hm, ?_⟩; clear hK K; try w_num)) | ((first | ((with_reducible refine g_c (k' := ?_) true true hD ?_ ?_); rotate_left; focus exact rfl) | with_reducible refine g_r hD rfl ?_); intro _ h₁; replace hF := rl hF h₁; clear h₁)))
 (refine Goes.step rfl (fun _ h₁ => ?_); replace hF := rl hF h₁; clear h₁)
 refine goes_oper_k rfl rfl (by decide) (fun K hK => ?_)
 have h1 := hF.c12
 go_simp
 refine hK _ _ ⟨gua_read fun e he => ?_, ?_⟩
 · have hm := mem_listed he
   simp [go_sem, h1] at hm
   exact ⟨_, hm, cell_lt h1, .inr hF.o12⟩
 clear hK K h1
 try walk_nrm
 (refine Goes.step rfl (fun _ h₁ => ?_); replace hF := rl hF h₁; clear h₁)
 refine goes_oper_k rfl rfl (by decide) (fun K hK => ?_)
 obtain ⟨cs, hc⟩ := hF.cw.b8
 have h0 := hF.cw.c8
 have hfz := frozen_of hc 0
 go_simp
 try (unfold stored; go_simp)
 refine hK _ _ ⟨gua_write (a := ⟨e8, 0, none⟩) rfl hc ⟨g.o8.1, g.o8.2 0, g.f8 (by omega)⟩ fun e he => ?_, ?_⟩
 · have hm := mem_listed he
   simp [go_sem, storedEv, h0, hfz] at hm
   exact hm
 clear hK K hc h0 hfz cs
 replace hF := hF.cw.set8 g hF.lt hF.low
 try walk_nrm
 have rlt : ∀ {w w₁ : World}, CW m Given Fz (q + 1) e7 e8 co w → MR 66 m.q.Wg own Given w w₁ → CW m Given Fz (q + 1) e7 e8 co w₁ := fun h r => h.rely g r
 clear rl
 repeat ((first | ((with_reducible refine g_opG ?_); first | (refine g_unw hD rfl rfl ?_; intro _ h₁; replace hF := rlt hF h₁; clear h₁; walk_nrm) | (refine Goes.step rfl ?_; intro _ h₁; replace hF := rlt hF h₁; clear h₁; refine goes_oper_k rfl rfl (by k_ne) fun K hK => ?_; go_simp; refine hK _ _ ⟨g_idle hD fun e he => by have hm := mem_listed he; simp [go_sem, *] at hm, ?_⟩; clear hK K; try w_num)) | ((first | ((with_reducible refine g_c (k' := ?_) false true hD ?_ ?_); rotate_left; focus exact rfl) | with_reducible refine g_r hD rfl ?_); intro _ h₁; replace hF := rlt hF h₁; clear h₁)))
 (first | ((with_reducible refine g_opG ?_); first | (refine g_unw hD rfl rfl ?_; intro _ h₁; replace hF := rlt hF h₁; clear h₁; walk_nrm) | (refine Goes.step rfl ?_; intro _ h₁; replace hF := rlt hF h₁; clear h₁; refine goes_oper_k rfl rfl (by k_ne) fun K hK => ?_; go_simp; refine hK _ _ ⟨g_idle hD fun e he => by have hm := mem_listed he; simp [go_sem, *] at hm, ?_⟩; clear hK K; try w_num)) | ((first | ((with_reducible refine g_c (k' := ?_) true true hD ?_ ?_); rotate_left; focus exact rfl) | with_reducible refine g_r hD rfl ?_); intro _ h₁; replace hF := rlt hF h₁; clear h₁))
 exact Goes.stop fun w₂ h₂ => ⟨_, ⟨rfl, rfl, rfl, rfl, rfl, rfl, rfl, rfl⟩, rfl, rlt hF h₂⟩
def GvF (m : ChM) (p : Nat) (chs : List Nat) (Given : Cells) : Cells := fun b x => Given b x ∨ m.gv p b x ∨ b ∈ chs
def FzF (m : ChM) (p : Nat) (env : List Nat) (Fz : Nat → Prop) : Nat → Prop := fun b => Fz b ∨ (b ∈ env ∨ m.rdx p b)
def chsF (m : ChM) (p co : Nat) : List Nat := (if p = 0 then [m.q.c0] else []) ++ (if p < m.q.nf then [co] else [])
theorem chsF_mem {b : Nat} (hp : p < m.q.nf) : b ∈ chsF m p co ↔ (p = 0 ∧ b = m.q.c0) ∨ b = co := by
 unfold chsF
 rw [if_pos hp, List.mem_append]
 refine or_congr ?_ (by simp)
 by_cases h : p = 0 <;> simp [h]
theorem cells_ne_chan {b : Nat} {v : Value} (h : w.cell? ⟨b, 0, none⟩ = some v) (h' : w.heap[b]? = some (.chan 0 #[] false 0 0 false)) : False := by
 unfold World.cell? at h
 rw [h'] at h
 simp at h
theorem R9.not_ch (_g : CG m own Given Fz p e7 e8) (hp : p < m.q.nf) (h : R9t m own Given Fz p e7 e8 e10 ci co e11 e12 w) {b : Nat} {v : Value} (hv : w.cell? ⟨b, 0, none⟩ = some v) : b ∉ chsF m p co := fun hb => by
 rcases (chsF_mem hp).1 hb with ⟨h0, rfl⟩ | rfl
 · exact cells_ne_chan hv (h.cw.ch0 h0)
 · exact cells_ne_chan hv (h.ch rfl).1.chan
theorem R9.low_ch (hm : ChMOK m) (hp : p < m.q.nf) (h : R9t m own Given Fz p e7 e8 e10 ci co e11 e12 w) {b : Nat} (hb : b < m.n0) : b ∉ chsF m p co := fun hc => by
 have h1 := hm.c0
 have h2 := (h.ch rfl).2
 have h3 := h.cw.low
 rcases (chsF_mem hp).1 hc with ⟨_, rfl⟩ | rfl <;> omega
theorem cg_fwd (hm : ChMOK m) (g : CG m own Given Fz p e7 e8) (hp : p < m.q.nf) (h : R9t m own Given Fz p e7 e8 e10 ci co e11 e12 w) : CG m own (GvF m p (chsF m p co) Given) (FzF m p [e12, e11, e10] Fz) (p + 1) e7 e8 where
 outer := g.outer
 given b x hb hx := by
   rcases hx with hx | hx | hx
   · exact (g.given b x hb hx).imp id fun ⟨s, h1, h2⟩ => ⟨s, by omega, h2⟩
   · exact .inr ⟨p, by omega, hx⟩
   · exact absurd hx (R9.low_ch hm hp h hb)
 fz b hb hx := by
   rcases hx with hx | hx | hx
   · obtain ⟨s, h1, h2⟩ := g.fz b hb hx
     exact ⟨s, by omega, h2⟩
   · have h1 := (h.b11 rfl).1.low
     have h2 := (h.b12 rfl).1.low
     have h3 := h.b10.low
     simp only [List.mem_cons, List.not_mem_nil, or_false] at hx
     omega
   · exact ⟨p, by omega, hx⟩
 wg x := .inl (g.wg x)
 n7 := g.n7
 o7 := ⟨g.o7.1, fun x hx => by
   rcases hx with hx | hx | hx
   · exact g.o7.2 x hx
   · have := (hm.gvB _ _ _ hx).1; have := g.n7.1; omega
   · exact R9.not_ch g hp h h.cw.c7 hx⟩
 o8 := ⟨g.o8.1, fun x hx => by
   rcases hx with hx | hx | hx
   · exact g.o8.2 x hx
   · have := (hm.gvB _ _ _ hx).1; have := g.n7.2.1; omega
   · exact R9.not_ch g hp h h.cw.c8 hx⟩
 f8 _ hx := by
   rcases hx with hx | hx | hx
   · exact g.f8 (by omega) hx
   · have h1 := (h.b11 rfl).1.n7.2
     have h2 := (h.b12 rfl).1.n7.2
     have h3 := h.b10.n7.2
     simp only [List.mem_cons, List.not_mem_nil, or_false] at hx
     omega
   · have := (hm.rdB _ _ hx).1; have := g.n7.2.1; omega
 c0 h := by omega
theorem r12_fwd (hm : ChMOK m) (g : CG m own Given Fz p e7 e8) (hp : p < m.q.nf) (h : R9t m own Given Fz p e7 e8 e10 ci co e11 e12 w) : R12 m own (GvF m p (chsF m p co) Given) (FzF m p [e12, e11, e10] Fz) (p + 1) e7 e8 ci co e12 w := by
 have hsz := h.cw.out.size
 have hco : co < w.heap.size := (Array.getElem?_eq_some_iff.1 (h.ch rfl).1.chan).1
 have h12 := (h.b12 rfl).1
 refine ⟨⟨h.cw.live, h.cw.c7, h.cw.c8, h.cw.b8, h.cw.out.less fun b x _ hx => .inl hx, fun b x hx => ?_, fun b hx => ?_, h.cw.lt, h.cw.low, fun h0 => by omega⟩, h.c12 rfl, ⟨h12.own, fun hx => ?_⟩, hco, by have := (h.ch rfl).2; have := h.cw.low; omega⟩
 · rcases hx with hx | hx | hx
   · exact h.cw.gsz b x hx
   · have := (hm.gvB _ _ _ hx).1; omega
   · rcases (chsF_mem hp).1 hx with ⟨h0, rfl⟩ | rfl
     · exact (Array.getElem?_eq_some_iff.1 (h.cw.ch0 h0)).1
     · exact hco
 · rcases hx with hx | hx | hx
   · exact h.cw.fsz b hx
   · simp only [List.mem_cons, List.not_mem_nil, or_false] at hx
     rcases hx with rfl | rfl | rfl
     · exact h12.lt
     · exact (h.b11 rfl).1.lt
     · exact h.b10.lt
   · have := (hm.rdB _ _ hx).1; omega
 · rcases hx with hx | hx | hx
   · exact h12.given 0 hx
   · have := (hm.gvB _ _ _ hx).1; have := h12.low; omega
   · exact R9.not_ch g hp h (h.c12 rfl) hx
end
theorem go_op {P : Program} {a : Act} {w : World} {o : Oper} {y : Operand} {f : FuncId} {cap : Array Value} (hop : o.op = .go { callee := .value y, args := #[], argTypes := #[] }) (hy : a.eval y = .func (.func f) #[] cap) :
   (execOp a.eval o).run P w = .ok (.spawn { target := .fn (.func f) cap, args := #[] }) w ∧ (execOp a.eval o).events P w #[] = #[] := by
 constructor
 · unfold execOp
   simp only [hop]
   simp [resolve, Deferred.ofValue, hy]
 · unfold execOp
   simp only [hop]
   simp [resolve, Deferred.ofValue, hy]
section
variable {m : ChM} {own : Nat → Prop} {Given : Cells} {Fz : Nat → Prop} {p e7 e8 e10 ci co e11 e12 : Nat} {w w₁ : World}
theorem kid_fwd (hm : ChMOK m) {x : Flesh} (hx : FleshC m.q x) (g : CG m own Given Fz p e7 e8) (hp : p < m.q.nf) (hF : R9t m own Given Fz p e7 e8 e10 ci co e11 e12 w) (kown : Nat → Prop) :
   KRun Try.prog 66 m.q.Wg (m.q.pp.net x) kown ⟨p, ci, co, [e12, e11, e10], .recv, []⟩ (m.gv p) (fun b => b ∈ [e12, e11, e10] ∨ m.rdx p b) (born Try.prog (call35 m.q.Wg e12 e11 e10)) w := by
 have hn := hm.need kown (m.gv p) (fun b => b ∈ [e12, e11, e10] ∨ m.rdx p b) p (fun _ _ h => h) (fun _ h => .inr h)
 have hX := hm.q.firm kown (m.gv p) (fun b => b ∈ [e12, e11, e10] ∨ m.rdx p b) p [] hn
 have same : ∀ b y, m.gv p b y ∨ m.rdx p b → w.cell? ⟨b, y, none⟩ = m.w0.cell? ⟨b, y, none⟩ := fun b y h => by
   rcases h with h | h
   · exact hF.cw.out.cell b y (hm.gvB _ _ _ h).1 fun hg => (g.given b y (hm.gvB _ _ _ h).1 hg).elim (hm.gvB _ _ _ h).2 fun ⟨s, hs, h'⟩ => hm.apart' p s b y (by omega) h h'
   · exact hF.cw.out.cell b y (hm.rdB _ _ h).1 fun hg => (g.given b y (hm.rdB _ _ h).1 hg).elim (hm.rdB _ _ h).2 fun ⟨s, hs, h'⟩ => hm.apart s p b y h' h
 have hFw : FwdF kown (m.gv p) (fun b => b ∈ [e12, e11, e10] ∨ m.rdx p b) m.q.Wg e12 e11 e10 ci co (m.q.fv p) (m.q.X kown (m.gv p) (fun b => b ∈ [e12, e11, e10] ∨ m.rdx p b) p []) w :=
   ⟨hF.cw.live, ⟨.inl (by simp), .inl (by simp), .inl (by simp)⟩, hF.c12 rfl, hF.c11 rfl, hF.c10, hm.x0 _ _ _ p w hp same hF.cw.out.form⟩
 refine Goo.mono (Goo.imp (fun g' w' h => ?_) (Goo.of_goes (fwd_born hX hFw))) (by show 30 ≤ x.fuel; have := hx.fuel; omega)
 obtain ⟨T, hT, rfl, hF'⟩ := h
 show x.Kid _ _ _ _ _ _
 rw [hx.kid]
 exact .inl ⟨hp, e12, e11, e10, rfl, hn, hF', T, hT, rfl⟩
theorem MRun.of {P : Program} {ty : TypeId} {Wg : Nat} {N : Net} {Q : N.M → Prop} {Stop : Goroutine → World → Prop} {n k : Nat} {g : Goroutine} (h : Goo P true own (MR ty Wg own Given) (MD Wg own Given Fz) Stop n g w)
   (hs : ∀ g w, Stop g w → MGoo P ty Wg own Given Fz (fun g w => ∃ m, Q m ∧ N.Main own m Given Fz g w) k g w) (hn : k + n ≤ N.fuel) : MRun P ty Wg N own Q Given Fz g w :=
 (h.bind (fun w => Rel.refl w) hs).mono hn
set_option maxRecDepth 100000 in
theorem at_fwd (hm : ChMOK m) {x : Flesh} (hx : FleshC m.q x) (hgv : x.give (.hire p ci co [e12, e11, e10]) = m.gv p) (hrd : x.reads (.hire p ci co [e12, e11, e10]) = fun b => b ∈ [e12, e11, e10] ∨ m.rdx p b)
   (g : CG m own Given Fz p e7 e8) (hp : p < m.q.nf) {T : Array Value} (hT : HTf m p e7 e8 e10 e11 e12 co T) {en : List Nat}
   (hRun : ∀ g' w', CG m own (GvF m p (chsF m p co) Given) (FzF m p [e12, e11, e10] Fz) (p + 1) e7 e8 → AtHead m (GvF m p (chsF m p co) Given) (FzF m p [e12, e11, e10] Fz) (p + 1) e7 e8 co g' w' →
     MGoo Try.prog 66 m.q.Wg own (GvF m p (chsF m p co) Given) (FzF m p [e12, e11, e10] Fz) (fun g w => ∃ m', m.q.pp.succE (.hire p ci co [e12, e11, e10], en) m' ∧ x.Main own m' (GvF m p (chsF m p co) Given) (FzF m p [e12, e11, e10] Fz) g w) 120 g' w')
   (hF : R9t m own Given Fz p e7 e8 e10 ci co e11 e12 w) :
   AtGo Try.prog 66 m.q.Wg (m.q.pp.net x) own (.hire p ci co [e12, e11, e10], en) Given Fz (G ((base 16).at ⟨((T.setIfInBounds 36 (.tuple #[])).setIfInBounds 37 (.func (.func 35) #[] #[ptr m.q.Wg, ptr e12, ptr e11, ptr e10])), []⟩ (.inRegion (cO (cF (cS (cS (cS bd16))))) [1] :: .code (cS (cS (cS (cS bd16)))) :: kl16)) m.cs) w := by
 have hf := hx.fuel
 have g' := cg_fwd hm g hp hF
 have hR := r12_fwd hm g hp hF
 have hsz := hF.cw.out.size
 have h37 : ((⟨((T.setIfInBounds 36 (.tuple #[])).setIfInBounds 37 (.func (.func 35) #[] #[ptr m.q.Wg, ptr e12, ptr e11, ptr e10])), []⟩ : Act).eval (.tmp 37)) = .func (.func 35) #[] #[ptr m.q.Wg, ptr e12, ptr e11, ptr e10] := by
   have := hT.l.size
   simp [Act.eval, this]
 have hgo := go_op (P := Try.prog) (w := w) (o := { dst := none, op := .go { callee := .value (.tmp 37), args := #[], argTypes := #[] }, type := 0, pos := "stage.go:63", after := #[{ on := 0, ground := .data }], guard := none }) rfl h37
 refine ⟨rfl, _, born Try.prog (call35 m.q.Wg e12 e11 e10), (stepG_spawn (o := { dst := none, op := .go { callee := .value (.tmp 37), args := #[], argTypes := #[] }, type := 0, pos := "stage.go:63", after := #[{ on := 0, ground := .data }], guard := none }) rfl rfl (by decide) hgo.1 rfl).trans (by rw [listed_nil hgo.2]; rfl), ?_, ?_, ?_, ?_, ?_⟩
 · intro b y hb
   replace hb : m.gv p b y := by
     have : x.give (.hire p ci co [e12, e11, e10]) b y := hb
     rwa [hgv] at this
   have hlt := (hm.gvB _ _ _ hb).1
   refine ⟨by omega, g.outer b hlt, fun hg => (g.given b y hlt hg).elim (hm.gvB _ _ _ hb).2 fun ⟨s, hs, h'⟩ => hm.apart' p s b y (by omega) hb h', fun hz => ?_, R9.low_ch hm hp hF hlt⟩
   obtain ⟨s, _, h'⟩ := g.fz b hlt hz
   exact hm.apart p s b y hb h'
 · intro b hb
   replace hb : b ∈ [e12, e11, e10] ∨ m.rdx p b := by
     have : x.reads (.hire p ci co [e12, e11, e10]) b := hb
     rwa [hrd] at this
   have hne : ∀ y, m.n0 ≤ b → ¬ x.give (.hire p ci co [e12, e11, e10]) b y := fun y hlo h => by
     rw [hgv] at h
     have := (hm.gvB _ _ _ h).1
     omega
   rcases hb with hb | hb
   · simp only [List.mem_cons, List.not_mem_nil, or_false] at hb
     rcases hb with rfl | rfl | rfl
     · have h := (hF.b12 rfl).1
       exact ⟨h.lt, h.own, fun y => ⟨h.given y, hne y h.low⟩, R9.not_ch g hp hF (hF.c12 rfl)⟩
     · have h := (hF.b11 rfl).1
       exact ⟨h.lt, h.own, fun y => ⟨h.given y, hne y h.low⟩, R9.not_ch g hp hF (hF.c11 rfl)⟩
     · have h := hF.b10
       exact ⟨h.lt, h.own, fun y => ⟨h.given y, hne y h.low⟩, R9.not_ch g hp hF hF.c10⟩
   · have hlt := (hm.rdB _ _ hb).1
     refine ⟨by omega, g.outer b hlt, fun y => ⟨fun hg => (g.given b y hlt hg).elim (hm.rdB _ _ hb).2 fun ⟨s, hs, h'⟩ => hm.apart s p b y h' hb, fun h => ?_⟩, R9.low_ch hm hp hF hlt⟩
     have h : x.give (.hire p ci co [e12, e11, e10]) b y := h
     rw [hgv] at h
     exact hm.apart p p b y h hb
 · intro c hc
   rcases (chsF_mem hp).1 hc with ⟨h0, rfl⟩ | rfl
   · exact ⟨(g.c0 h0).1, (g.c0 h0).2.1, (g.c0 h0).2.2, hF.cw.ch0 h0⟩
   · have h := (hF.ch rfl).1
     exact ⟨h.own, h.given, h.fz, h.chan⟩
 · intro kown
   show KRun _ _ _ _ _ _ (x.give (.hire p ci co [e12, e11, e10])) (x.reads (.hire p ci co [e12, e11, e10])) _ _
   rw [hgv, hrd]
   exact kid_fwd hm hx g hp hF kown
 · show MRun _ _ _ _ _ _ (fun b y => Given b y ∨ x.give (.hire p ci co [e12, e11, e10]) b y ∨ b ∈ chsF m p co) (fun b => Fz b ∨ x.reads (.hire p ci co [e12, e11, e10]) b) _ _
   rw [hgv, hrd]
   exact MRun.of (after_fwd hm g' hp hT hR) (fun g w h => hRun g w g' h) (by show 120 + 40 ≤ x.fuel; omega)
set_option maxRecDepth 100000 in
theorem go_fwd (hm : ChMOK m) {x : Flesh} (hx : FleshC m.q x) (hgv : x.give (.hire p ci co [e12, e11, e10]) = m.gv p) (hrd : x.reads (.hire p ci co [e12, e11, e10]) = fun b => b ∈ [e12, e11, e10] ∨ m.rdx p b)
   (g : CG m own Given Fz p e7 e8) (hp : p < m.q.nf) {T : Array Value} (hT : HTf m p e7 e8 e10 e11 e12 co T) {en : List Nat}
   (hRun : ∀ g' w', CG m own (GvF m p (chsF m p co) Given) (FzF m p [e12, e11, e10] Fz) (p + 1) e7 e8 → AtHead m (GvF m p (chsF m p co) Given) (FzF m p [e12, e11, e10] Fz) (p + 1) e7 e8 co g' w' →
     MGoo Try.prog 66 m.q.Wg own (GvF m p (chsF m p co) Given) (FzF m p [e12, e11, e10] Fz) (fun g w => ∃ m', m.q.pp.succE (.hire p ci co [e12, e11, e10], en) m' ∧ x.Main own m' (GvF m p (chsF m p co) Given) (FzF m p [e12, e11, e10] Fz) g w) 120 g' w')
   (w : World) (hF : R9t m own Given Fz p e7 e8 e10 ci co e11 e12 w) :
   MGoo Try.prog 66 m.q.Wg own Given Fz (AtGo Try.prog 66 m.q.Wg (m.q.pp.net x) own (.hire p ci co [e12, e11, e10], en) Given Fz) 12 (G ((base 16).at ⟨T.setIfInBounds 36 (.tuple #[]), []⟩ (.inRegion ops10 [] :: k10)) m.cs) w := by
 have hD : ∀ w, MD m.q.Wg own Given Fz w w #[] := fun w => Gua.idle w
 have rl : ∀ {w w₁ : World}, R9t m own Given Fz p e7 e8 e10 ci co e11 e12 w → MR 66 m.q.Wg own Given w w₁ → R9t m own Given Fz p e7 e8 e10 ci co e11 e12 w₁ := fun h r => R9.rely g h r
 have fin := fun w h => at_fwd (w := w) hm hx hgv hrd g hp hT hRun h
 generalize AtGo Try.prog 66 m.q.Wg (m.q.pp.net x) own (.hire p ci co [e12, e11, e10], en) Given Fz = Stop at fin ⊢
 replace fin := Hd.mk fin
 clear hRun hgv hrd hx hm
 obtain ⟨⟨hs, t0, t6, t7, t8, t28, t29, t30⟩, t10, t11, t12, t35⟩ := hT
 obtain ⟨v0, v1, v2, v3, v4, v5, v6, v7, v8, v9, v10, v11, v12, v13, v14, v15, v16, v17, v18, v19, v20, v21, v22, v23, v24, v25, v26, v27, v28, v29, v30, v31, v32, v33, v34, v35, v36, v37, v38, v39, v40, v41, v42, v43, v44, v45, v46, v47, v48, rfl⟩ := array49 T hs
 simp only [List.getElem?_toArray, List.getElem?_cons_zero, List.getElem?_cons_succ, Option.some.injEq] at t0 t6 t7 t8 t28 t29 t30 t10 t11 t12 t35
 subst t0 t6 t7 t8 t28 t29 t30 t10 t11 t12 t35
 clear hs
 simp only [ops10, k10, kl16, lp16, bd16, tl16, cS, cF, cI, cO, body16, Try.f16, Option.getD_some]
 refine Goo.of_goes (n := 12) ?_
 try walk_nrm
 repeat ((first | ((first | ((with_reducible refine g_c (k' := ?_) true true hD ?_ ?_); rotate_left; focus exact rfl) | with_reducible refine g_r hD rfl ?_); intro _ h₁; replace hF := rl hF h₁; clear h₁)))
 (first | ((with_reducible refine g_opG ?_); first | (refine g_unw hD rfl rfl ?_; intro _ h₁; replace hF := rl hF h₁; clear h₁; walk_nrm) | (refine Goes.step rfl ?_; intro _ h₁; replace hF := rl hF h₁; clear h₁; refine goes_oper_k rfl rfl (by k_ne) fun K hK => ?_; go_simp; refine hK _ _ ⟨g_idle hD fun e he => by have hm := mem_listed he; simp [go_sem, *] at hm, ?_⟩; clear hK K; try w_num)) | ((first | ((with_reducible refine g_c (k' := ?_) true true hD ?_ ?_); rotate_left; focus exact rfl) | with_reducible refine g_r hD rfl ?_); intro _ h₁; replace hF := rl hF h₁; clear h₁))
 exact Goes.stop fun w₁ h₁ => fin.out w₁ (rl hF h₁)
end
end Go.Proofs.Ytblpmdolclalnaa
