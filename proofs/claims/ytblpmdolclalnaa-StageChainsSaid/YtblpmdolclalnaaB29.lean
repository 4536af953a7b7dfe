/- Goroutine 0 alone: the pieces of the walk of the law StageChains, from call to call; the loop that makes its functions. Made by gen_lak.py. -/
import Derived.Test.YtblpmdolclalnaaB28
namespace Go.Proofs.Ytblpmdolclalnaa
open Go.Conc Go.RowKit Go.Conc.Lib Go.ConcR.Gen Go.ConcN.Gen

theorem oneT37 : OneT Try.prog 37 28 := by
  have h0 : (Try.prog.info? 28).isSome = true := by kernel_rfl
  have h1 : ((Try.prog.info? 28).get h0).zero.isSome = true := by kernel_rfl
  exact ⟨Try.underlying37, (Try.prog.info? 28).get h0, ((Try.prog.info? 28).get h0).zero.get h1, by simp, by simp, by kernel_rfl, by kernel_rfl, of_decide_eq_true (by kernel_rfl)⟩
/-- The functions laid so far: their boxes kbs, their slice vf. -/
structure FL (Shun : Nat → Prop) (w : World) (S : Nat → Prop) (codes : List Int) (kbs : List Nat) (vf : Value) (w₁ : World) : Prop where
  keep : Keep Shun w S w₁
  row : w₁.ownsRow 0 28 1 vf kbs.length (kbs.map fnV)
  rowO : ∀ g, vf.ownBlock = some g → w.heap.size ≤ g
  box : ∀ (s k : Nat), kbs[s]? = some k → Cel S k (.int .u8 (codes.getD s 0)) w₁
  nz : ∀ g, vf.ownBlock = some g → 0 < kbs.length
structure FX (Shun : Nat → Prop) (w : World) (S : Nat → Prop) (codes : List Int) (kbs : List Nat) (vf : Value) (bx kb : Nat) (c : Int) (w₁ : World) : Prop where
  j : FL Shun w S codes kbs vf w₁
  cell : w₁.cell? ⟨bx, 0, none⟩ = some (fnV kb)
  low : ¬ S bx
  new : Cel S kb (.int .u8 c) w₁
section
variable {Shun S S' : Nat → Prop} {w w₁ w₂ : World} {codes : List Int} {kbs : List Nat} {vf : Value} {bx kb : Nat} {c : Int}
theorem FL.steady : Steady (FL Shun w S codes kbs vf) := fun _w d h => ⟨h.keep.at d, h.row, h.rowO, h.box, h.nz⟩
theorem FX.steady : Steady (FX Shun w S codes kbs vf bx kb c) := fun w d h => ⟨FL.steady w d h.j, h.cell, h.low, h.new⟩
theorem FL.rowS (h : FL Shun w S codes kbs vf w₁) : ∀ g, vf.ownBlock = some g → ¬ S g := fun g hg hs => by
  obtain ⟨cs, hc⟩ := row_tp h.row hg
  obtain ⟨cs', hc'⟩ := h.keep.s66 g hs
  rw [hc] at hc'
  cases hc'
theorem row_keep {t : TypeId} {n : Nat} {xs : List Value} (hr : w₁.ownsRow 0 t 1 vf n xs) (ht : t ≠ 66) (h66 : S66 S w₁) (k : Keep S w₁ S' w₂) : w₂.ownsRow 0 t 1 vf n xs := ownsRow_of hr fun g hg => by
  obtain ⟨cs, hc⟩ := row_tp hr hg
  refine k.out.blk g (Array.getElem?_eq_some_iff.1 hc).1 fun _ hs => ?_
  obtain ⟨cs', hc'⟩ := h66 g hs
  rw [hc] at hc'
  cases hc'
  exact ht rfl
theorem FL.next (h : FL Shun w S codes kbs vf w₁) (k : Keep S w₁ S' w₂) : FL Shun w S' codes kbs vf w₂ := ⟨h.keep.trans k, row_keep h.row (by decide) h.keep.s66 k, h.rowO, fun s kk hk => (h.box s kk hk).keep k, h.nz⟩
theorem FX.make (h : FL Shun w S codes kbs vf w₁) (hc : Cel S kb (.int .u8 c) w₁) : FX Shun w S codes kbs vf w₁.heap.size kb c (w₁.alloc (.cells #[fnV kb] 28)) := by
  have hn := heap_alloc_new w₁ (Obj.cells #[fnV kb] 28)
  have k := (Keep.refl h.keep.s66).alloc (.cells #[fnV kb] 28)
  exact ⟨h.next k, by unfold World.cell?; rw [hn]; rfl, fun hs => Nat.lt_irrefl _ (h.keep.s66.lt hs), hc.keep k⟩
theorem cel_grown {b n : Nat} {u : Value} {ks : List Nat} (h : Cel S b (.int .u8 c) w₁) (hgr : w₁.grownBy w₂ u.ownBlock) (hr : w₁.ownsRow 0 28 1 u n (ks.map fnV)) (nz : ∀ g, u.ownBlock = some g → 0 < n) : Cel S b (.int .u8 c) w₂ := ⟨h.1, (cell?_eq (hgr.block b (cell_lt h.2) fun e => by
  have hn := nz b e.symm
  have hl := hr.1
  rcases hr.2 with ⟨e', _⟩ | ⟨g, cap, cur, e', _⟩
  · rw [e'] at e; cases e
  · rw [e'] at e hr
    cases e
    have h0 : (ks.map fnV)[0]? = some (fnV (ks[0]'(by simp at hl; omega))) := by rw [List.getElem?_map, List.getElem?_eq_getElem (by simp at hl; omega)]; rfl
    have := row_get hr h0
    rw [h.2] at this
    cases this) 0).trans h.2⟩
theorem FX.appended {v' : Value} (h : FX Shun w S codes kbs vf bx kb c w₁) (hx : codes[kbs.length]? = some c) (hgr : w₁.grownBy w₂ vf.ownBlock) (hrow : w₂.ownsRow 0 28 1 v' (kbs.length + 1) (kbs.map fnV ++ [fnV kb])) (hown : ∀ g, v'.ownBlock = some g → vf.ownBlock = some g ∨ (w₁.heap.size ≤ g ∧ g < w₂.heap.size)) : FL Shun w S codes (kbs ++ [kb]) v' w₂ := by
  refine ⟨h.j.keep.grown hgr h.j.row (by decide) h.j.rowO, by simpa using hrow, fun g hg => ?_, fun s k hk => ?_, fun g hg => by simp⟩
  · rcases hown g hg with e | e
    · exact h.j.rowO g e
    · exact Nat.le_trans h.j.keep.out.size e.1
  · rcases Nat.lt_or_ge s kbs.length with hs | hs
    · rw [List.getElem?_append_left hs] at hk
      exact cel_grown (h.j.box s k hk) hgr h.j.row h.j.nz
    · rw [List.getElem?_append_right hs] at hk
      have hs' : s = kbs.length := by
        rcases Nat.eq_zero_or_pos (s - kbs.length) with x | x
        · omega
        · rw [List.getElem?_eq_none (by simp; omega)] at hk; cases hk
      subst hs'
      simp only [Nat.sub_self, List.getElem?_cons_zero, Option.some.injEq] at hk
      subst hk
      rw [List.getD_eq_getElem?_getD, hx]
      exact cel_grown h.new hgr h.j.row h.j.nz
end

noncomputable def body4 : Code := Try.f4.body.getD .skip
noncomputable def tl4 : Nat → Code | 0 => body4 | n + 1 => cS (tl4 n)
noncomputable def lp4 : Code := cI (cI (cS (cF (tl4 3))))
noncomputable def bd4 : Code := cI (cF (cS (cS lp4)))
section
variable {Shun S : Nat → Prop} {w w₁ : World} {cs : List Frame} {kb kl i : Nat} {v1 v2 vf : Value} {fa fb fc ff : Option Addr} {ca cb cc na nb nc cf nf : Nat} {c : Int} {codes : List Int} {kbs : List Nat}
set_option maxRecDepth 100000 in
set_option maxHeartbeats 8000000 in
theorem ca0 {Stop : Goroutine → World → Prop}  {F0 : World → Prop} (hF : F0 w) (s0 : Steady F0)
    (hgo : ∀ T w, F0 w → T.size = 64 → T[0]? = some (.slice fa na ca) → T[1]? = some (.slice fc nc cc) → Stop (G ((base 9).at ⟨#[.slice fa na ca, undef, undef, undef, undef, undef, undef, undef, undef, undef, undef, undef, undef, undef, undef, undef, undef, undef, undef, undef, undef, undef, undef, undef, undef], []⟩ [.code body9]) ((base 4).at ⟨T, []⟩ (.inRegion (cO (cF (cF (tl4 1)))) [1, 2, 3, 4, 5, 6, 7] :: [.code (cS (cF (tl4 1))), .code (tl4 2)]) :: cs)) w) :
    Goes Try.prog true AtRel (SD Shun) Stop 60 (G ((base 4).at ⟨#[.slice fa na ca, .slice fc nc cc, undef, undef, undef, undef, undef, undef, undef, undef, undef, undef, undef, undef, undef, undef, undef, undef, undef, undef, undef, undef, undef, undef, undef, undef, undef, undef, undef, undef, undef, undef, undef, undef, undef, undef, undef, undef, undef, undef, undef, undef, undef, undef, undef, undef, undef, undef, undef, undef, undef, undef, undef, undef, undef, undef, undef, undef, undef, undef, undef, undef, undef, undef], []⟩ [.code body4]) cs) w := by
  have hD : ∀ w, SD Shun w w #[] := sd_idle
  have rl : ∀ {w w₁ : World}, F0 w → AtRel w w₁ → F0 w₁ := fun h r => s0.rel h r
  replace hgo := Hd.mk hgo
  simp only [tl4, body4, cO, cS, cF, Try.f4, Option.getD_some, body9, Try.f9] at hgo ⊢
  try walk_nrm
  repeat ((first | ((with_reducible refine g_opG ?_); (first | ((with_reducible refine g_unw hD (o := ?_) ?_ ?_ (fun _ h₁ => ?_)); rotate_left; (focus exact rfl); (focus exact rfl); replace hF := rl hF h₁; clear h₁; walk_nrm) | (refine Goes.step rfl (fun _ h₁ => ?_); replace hF := rl hF h₁; clear h₁; refine goes_oper_k rfl rfl (by k_ne) (fun K hK => ?_); go_simp; refine hK _ _ ⟨?_, ?_⟩; (focus (refine g_idle hD ?_; intro e he; have hm := mem_listed he; simp [go_sem, *] at hm; done)); clear hK K; try w_num))) | ((with_reducible first | refine g_regE hD ?_ | refine g_seq hD ?_ | refine g_skip hD ?_ | refine g_block hD ?_ | refine g_inBlock hD ?_ | refine g_inLoop hD ?_ | refine g_loop hD ?_ | refine g_ret hD ?_ | refine g_end hD ?_); intro _ h₁; replace hF := rl hF h₁; clear h₁) | ((with_reducible refine g_reg hD (fun _ h₁ => ?_)); replace hF := rl hF h₁; clear h₁; simp only [regN]) | ((with_reducible refine g_exit hD (k' := ?_) ?_ (fun _ h₁ => ?_)); rotate_left; (focus exact rfl); replace hF := rl hF h₁; clear h₁) | ((first | ((with_reducible refine g_ct hD ?_ ?_); (focus exact rfl)) | ((with_reducible refine g_cf hD ?_ ?_); (focus exact rfl))); intro _ h₁; replace hF := rl hF h₁; clear h₁)))
  ((with_reducible refine g_opG ?_); refine Goes.step rfl (fun _ h₁ => ?_); replace hF := rl hF h₁; clear h₁; refine goes_call rfl rfl (by k_ne) rfl Try.func9 rfl rfl ⟨by exact (g_idle hD (fun e he => by simp at he)), ?_⟩; walk_nrmf Try.f9)
  exact Goes.stop fun w₃ h₃ => hgo.out _ _ (rl hF h₃) rfl rfl rfl

set_option maxRecDepth 100000 in
set_option maxHeartbeats 8000000 in
theorem ca1 {Stop : Goroutine → World → Prop}  {F0 : World → Prop} (hF : F0 w) (s0 : Steady F0) {T : Array Value} (hs : T.size = 64)
    (hgo : ∀ T w, F0 w → T.size = 64 → Stop (G ((base 10).at ⟨#[undef, undef, undef, undef, undef, undef, undef, undef, undef, undef, undef, undef, undef, undef, undef, undef, undef, undef, undef, undef, undef, undef, undef, undef, undef, undef, undef, undef, undef, undef, undef, undef, undef, undef, undef, undef, undef, undef, undef, undef, undef, undef, undef, undef, undef, undef, undef, undef, undef], []⟩ [.code body10]) ((base 4).at ⟨T, []⟩ (.inRegion (cO (cF (cT (cS (cF (tl4 1)))))) [0, 1] :: [.code (cS (cT (cS (cF (tl4 1))))), .code (tl4 2)]) :: cs)) w) :
    Goes Try.prog true AtRel (SD Shun) Stop 60 (G ((base 4).at ⟨T.setIfInBounds 10 (.bool false), []⟩ (.inRegion (cO (cF (cF (tl4 1)))) [2, 3, 4, 5, 6, 7] :: [.code (cS (cF (tl4 1))), .code (tl4 2)])) cs) w := by
  have hD : ∀ w, SD Shun w w #[] := sd_idle
  have rl : ∀ {w w₁ : World}, F0 w → AtRel w w₁ → F0 w₁ := fun h r => s0.rel h r
  replace hgo := Hd.mk hgo
  obtain ⟨v0, v1, v2, v3, v4, v5, v6, v7, v8, v9, v10, v11, v12, v13, v14, v15, v16, v17, v18, v19, v20, v21, v22, v23, v24, v25, v26, v27, v28, v29, v30, v31, v32, v33, v34, v35, v36, v37, v38, v39, v40, v41, v42, v43, v44, v45, v46, v47, v48, v49, v50, v51, v52, v53, v54, v55, v56, v57, v58, v59, v60, v61, v62, v63, rfl⟩ := array64 T hs
  clear hs
  simp only [tl4, body4, cT, cO, cS, cF, Try.f4, Option.getD_some, body10, Try.f10] at hgo ⊢
  try walk_nrm
  repeat ((first | ((with_reducible refine g_opG ?_); (first | ((with_reducible refine g_unw hD (o := ?_) ?_ ?_ (fun _ h₁ => ?_)); rotate_left; (focus exact rfl); (focus exact rfl); replace hF := rl hF h₁; clear h₁; walk_nrm) | (refine Goes.step rfl (fun _ h₁ => ?_); replace hF := rl hF h₁; clear h₁; refine goes_oper_k rfl rfl (by k_ne) (fun K hK => ?_); go_simp; refine hK _ _ ⟨?_, ?_⟩; (focus (refine g_idle hD ?_; intro e he; have hm := mem_listed he; simp [go_sem, *] at hm; done)); clear hK K; try w_num))) | ((with_reducible first | refine g_regE hD ?_ | refine g_seq hD ?_ | refine g_skip hD ?_ | refine g_block hD ?_ | refine g_inBlock hD ?_ | refine g_inLoop hD ?_ | refine g_loop hD ?_ | refine g_ret hD ?_ | refine g_end hD ?_); intro _ h₁; replace hF := rl hF h₁; clear h₁) | ((with_reducible refine g_reg hD (fun _ h₁ => ?_)); replace hF := rl hF h₁; clear h₁; simp only [regN]) | ((with_reducible refine g_exit hD (k' := ?_) ?_ (fun _ h₁ => ?_)); rotate_left; (focus exact rfl); replace hF := rl hF h₁; clear h₁) | ((first | ((with_reducible refine g_ct hD ?_ ?_); (focus exact rfl)) | ((with_reducible refine g_cf hD ?_ ?_); (focus exact rfl))); intro _ h₁; replace hF := rl hF h₁; clear h₁)))
  ((with_reducible refine g_opG ?_); refine Goes.step rfl (fun _ h₁ => ?_); replace hF := rl hF h₁; clear h₁; refine goes_call rfl rfl (by k_ne) rfl Try.func10 rfl rfl ⟨by exact (g_idle hD (fun e he => by simp at he)), ?_⟩; walk_nrmf Try.f10)
  exact Goes.stop fun w₃ h₃ => hgo.out _ _ (rl hF h₃) rfl

set_option maxRecDepth 100000 in
set_option maxHeartbeats 8000000 in
theorem ca1c {Stop : Goroutine → World → Prop}  {F0 : World → Prop} (hF : F0 w) (s0 : Steady F0) {T : Array Value} (hs : T.size = 64) (t1 : T[1]? = some (.slice fc nc cc)) (hgt : decide (20 < (nc : Int)) = true)
    (hgo : ∀ T w, F0 w → T.size = 64 → Stop (G ((base 10).at ⟨#[undef, undef, undef, undef, undef, undef, undef, undef, undef, undef, undef, undef, undef, undef, undef, undef, undef, undef, undef, undef, undef, undef, undef, undef, undef, undef, undef, undef, undef, undef, undef, undef, undef, undef, undef, undef, undef, undef, undef, undef, undef, undef, undef, undef, undef, undef, undef, undef, undef], []⟩ [.code body10]) ((base 4).at ⟨T, []⟩ (.inRegion (cO (cF (cT (cS (cF (tl4 1)))))) [0, 1] :: [.code (cS (cT (cS (cF (tl4 1))))), .code (tl4 2)]) :: cs)) w) :
    Goes Try.prog true AtRel (SD Shun) Stop 60 (G ((base 4).at ⟨T.setIfInBounds 10 (.bool true), []⟩ (.inRegion (cO (cF (cF (tl4 1)))) [2, 3, 4, 5, 6, 7] :: [.code (cS (cF (tl4 1))), .code (tl4 2)])) cs) w := by
  have hD : ∀ w, SD Shun w w #[] := sd_idle
  have rl : ∀ {w w₁ : World}, F0 w → AtRel w w₁ → F0 w₁ := fun h r => s0.rel h r
  replace hgo := Hd.mk hgo
  obtain ⟨v0, v1, v2, v3, v4, v5, v6, v7, v8, v9, v10, v11, v12, v13, v14, v15, v16, v17, v18, v19, v20, v21, v22, v23, v24, v25, v26, v27, v28, v29, v30, v31, v32, v33, v34, v35, v36, v37, v38, v39, v40, v41, v42, v43, v44, v45, v46, v47, v48, v49, v50, v51, v52, v53, v54, v55, v56, v57, v58, v59, v60, v61, v62, v63, rfl⟩ := array64 T hs
  simp only [List.getElem?_toArray, List.getElem?_cons_zero, List.getElem?_cons_succ, Option.some.injEq] at t1
  subst t1
  clear hs
  simp only [tl4, body4, cT, cO, cS, cF, Try.f4, Option.getD_some, body10, Try.f10] at hgo ⊢
  try walk_nrm
  repeat ((first | ((with_reducible refine g_opG ?_); (first | ((with_reducible refine g_unw hD (o := ?_) ?_ ?_ (fun _ h₁ => ?_)); rotate_left; (focus exact rfl); (focus exact rfl); replace hF := rl hF h₁; clear h₁; walk_nrm) | (refine Goes.step rfl (fun _ h₁ => ?_); replace hF := rl hF h₁; clear h₁; refine goes_oper_k rfl rfl (by k_ne) (fun K hK => ?_); go_simp; refine hK _ _ ⟨?_, ?_⟩; (focus (refine g_idle hD ?_; intro e he; have hm := mem_listed he; simp [go_sem, *] at hm; done)); clear hK K; try w_num))) | ((with_reducible first | refine g_regE hD ?_ | refine g_seq hD ?_ | refine g_skip hD ?_ | refine g_block hD ?_ | refine g_inBlock hD ?_ | refine g_inLoop hD ?_ | refine g_loop hD ?_ | refine g_ret hD ?_ | refine g_end hD ?_); intro _ h₁; replace hF := rl hF h₁; clear h₁) | ((with_reducible refine g_reg hD (fun _ h₁ => ?_)); replace hF := rl hF h₁; clear h₁; simp only [regN]) | ((with_reducible refine g_exit hD (k' := ?_) ?_ (fun _ h₁ => ?_)); rotate_left; (focus exact rfl); replace hF := rl hF h₁; clear h₁) | ((first | ((with_reducible refine g_ct hD ?_ ?_); (focus exact rfl)) | ((with_reducible refine g_cf hD ?_ ?_); (focus exact rfl))); intro _ h₁; replace hF := rl hF h₁; clear h₁)))
  ((with_reducible refine g_opG ?_); refine Goes.step rfl (fun _ h₁ => ?_); replace hF := rl hF h₁; clear h₁; refine goes_call rfl rfl (by k_ne) rfl Try.func10 rfl rfl ⟨by exact (g_idle hD (fun e he => by simp at he)), ?_⟩; walk_nrmf Try.f10)
  exact Goes.stop fun w₃ h₃ => hgo.out _ _ (rl hF h₃) rfl

set_option maxRecDepth 100000 in
set_option maxHeartbeats 8000000 in
theorem ca1b {Stop : Goroutine → World → Prop}  {F0 : World → Prop} (hF : F0 w) (s0 : Steady F0) {T : Array Value} (hs : T.size = 64)
    (hgo : ∀ T k w, F0 w → T.size = 64 → T[4]? = some (.bool true) → Stop (G { (base 4).at ⟨T, []⟩ k with mode := .returning } []) w) :
    Goes Try.prog true AtRel (SD Shun) Stop 60 (G ((base 4).at ⟨T.setIfInBounds 17 (.bool true), []⟩ (.inRegion (cO (cF (cT (cS (cF (tl4 1)))))) [1] :: [.code (cS (cT (cS (cF (tl4 1))))), .code (tl4 2)])) []) w := by
  have hD : ∀ w, SD Shun w w #[] := sd_idle
  have rl : ∀ {w w₁ : World}, F0 w → AtRel w w₁ → F0 w₁ := fun h r => s0.rel h r
  replace hgo := Hd.mk hgo
  obtain ⟨v0, v1, v2, v3, v4, v5, v6, v7, v8, v9, v10, v11, v12, v13, v14, v15, v16, v17, v18, v19, v20, v21, v22, v23, v24, v25, v26, v27, v28, v29, v30, v31, v32, v33, v34, v35, v36, v37, v38, v39, v40, v41, v42, v43, v44, v45, v46, v47, v48, v49, v50, v51, v52, v53, v54, v55, v56, v57, v58, v59, v60, v61, v62, v63, rfl⟩ := array64 T hs
  clear hs
  simp only [tl4, body4, cT, cO, cS, cF, Try.f4, Option.getD_some] at hgo ⊢
  try walk_nrm
  repeat ((first | ((with_reducible refine g_opG ?_); (first | ((with_reducible refine g_unw hD (o := ?_) ?_ ?_ (fun _ h₁ => ?_)); rotate_left; (focus exact rfl); (focus exact rfl); replace hF := rl hF h₁; clear h₁; walk_nrm) | (refine Goes.step rfl (fun _ h₁ => ?_); replace hF := rl hF h₁; clear h₁; refine goes_oper_k rfl rfl (by k_ne) (fun K hK => ?_); go_simp; refine hK _ _ ⟨?_, ?_⟩; (focus (refine g_idle hD ?_; intro e he; have hm := mem_listed he; simp [go_sem, *] at hm; done)); clear hK K; try w_num))) | ((with_reducible first | refine g_regE hD ?_ | refine g_seq hD ?_ | refine g_skip hD ?_ | refine g_block hD ?_ | refine g_inBlock hD ?_ | refine g_inLoop hD ?_ | refine g_loop hD ?_ | refine g_ret hD ?_ | refine g_end hD ?_); intro _ h₁; replace hF := rl hF h₁; clear h₁) | ((with_reducible refine g_reg hD (fun _ h₁ => ?_)); replace hF := rl hF h₁; clear h₁; simp only [regN]) | ((with_reducible refine g_exit hD (k' := ?_) ?_ (fun _ h₁ => ?_)); rotate_left; (focus exact rfl); replace hF := rl hF h₁; clear h₁) | ((first | ((with_reducible refine g_ct hD ?_ ?_); (focus exact rfl)) | ((with_reducible refine g_cf hD ?_ ?_); (focus exact rfl))); intro _ h₁; replace hF := rl hF h₁; clear h₁)))
  exact Goes.stop fun w₃ h₃ => hgo.out _ _ _ (rl hF h₃) rfl rfl

set_option maxRecDepth 100000 in
set_option maxHeartbeats 8000000 in
theorem ca2 {Stop : Goroutine → World → Prop}  {F0 : World → Prop} (hF : F0 w) (s0 : Steady F0) {T : Array Value} (hs : T.size = 64) (t0 : T[0]? = some (.slice fa na ca)) (t1 : T[1]? = some (.slice fc nc cc)) (hgt : decide (20 < (nc : Int)) = false)
    (hgo : ∀ T w, F0 w → T.size = 64 → T[0]? = some (.slice fa na ca) → T[1]? = some (.slice fc nc cc) → T[5]? = some (.slice none 0 0) → T[19]? = some (.int .i64 nc) → T[20]? = some (.int .i64 0) → Stop (G ((base 4).at ⟨T, []⟩ [.code lp4, .inLoop lp4, .inBlock 0, .code (tl4 4)]) cs) w) :
    Goes Try.prog true AtRel (SD Shun) Stop 60 (G ((base 4).at ⟨T.setIfInBounds 10 (.bool true), []⟩ (.inRegion (cO (cF (cF (tl4 1)))) [2, 3, 4, 5, 6, 7] :: [.code (cS (cF (tl4 1))), .code (tl4 2)])) cs) w := by
  have hD : ∀ w, SD Shun w w #[] := sd_idle
  have rl : ∀ {w w₁ : World}, F0 w → AtRel w w₁ → F0 w₁ := fun h r => s0.rel h r
  replace hgo := Hd.mk hgo
  obtain ⟨v0, v1, v2, v3, v4, v5, v6, v7, v8, v9, v10, v11, v12, v13, v14, v15, v16, v17, v18, v19, v20, v21, v22, v23, v24, v25, v26, v27, v28, v29, v30, v31, v32, v33, v34, v35, v36, v37, v38, v39, v40, v41, v42, v43, v44, v45, v46, v47, v48, v49, v50, v51, v52, v53, v54, v55, v56, v57, v58, v59, v60, v61, v62, v63, rfl⟩ := array64 T hs
  simp only [List.getElem?_toArray, List.getElem?_cons_zero, List.getElem?_cons_succ, Option.some.injEq] at t0 t1
  subst t0 t1
  clear hs
  simp only [tl4, body4, lp4, cO, cS, cF, cI, Try.f4, Option.getD_some] at hgo ⊢
  try walk_nrm
  repeat ((first | ((with_reducible refine g_opG ?_); (first | ((with_reducible refine g_unw hD (o := ?_) ?_ ?_ (fun _ h₁ => ?_)); rotate_left; (focus exact rfl); (focus exact rfl); replace hF := rl hF h₁; clear h₁; walk_nrm) | (refine Goes.step rfl (fun _ h₁ => ?_); replace hF := rl hF h₁; clear h₁; refine goes_oper_k rfl rfl (by k_ne) (fun K hK => ?_); go_simp; refine hK _ _ ⟨?_, ?_⟩; (focus (refine g_idle hD ?_; intro e he; have hm := mem_listed he; simp [go_sem, *] at hm; done)); clear hK K; try w_num))) | ((with_reducible first | refine g_regE hD ?_ | refine g_seq hD ?_ | refine g_skip hD ?_ | refine g_block hD ?_ | refine g_inBlock hD ?_ | refine g_inLoop hD ?_ | refine g_ret hD ?_ | refine g_end hD ?_); intro _ h₁; replace hF := rl hF h₁; clear h₁) | ((with_reducible refine g_reg hD (fun _ h₁ => ?_)); replace hF := rl hF h₁; clear h₁; simp only [regN]) | ((with_reducible refine g_exit hD (k' := ?_) ?_ (fun _ h₁ => ?_)); rotate_left; (focus exact rfl); replace hF := rl hF h₁; clear h₁) | ((first | ((with_reducible refine g_ct hD ?_ ?_); (focus exact rfl)) | ((with_reducible refine g_cf hD ?_ ?_); (focus exact rfl))); intro _ h₁; replace hF := rl hF h₁; clear h₁)))
  (first | ((with_reducible refine g_opG ?_); (first | ((with_reducible refine g_unw hD (o := ?_) ?_ ?_ (fun _ h₁ => ?_)); rotate_left; (focus exact rfl); (focus exact rfl); replace hF := rl hF h₁; clear h₁; walk_nrm) | (refine Goes.step rfl (fun _ h₁ => ?_); replace hF := rl hF h₁; clear h₁; refine goes_oper_k rfl rfl (by k_ne) (fun K hK => ?_); go_simp; refine hK _ _ ⟨?_, ?_⟩; (focus (refine g_idle hD ?_; intro e he; have hm := mem_listed he; simp [go_sem, *] at hm; done)); clear hK K; try w_num))) | ((with_reducible first | refine g_regE hD ?_ | refine g_seq hD ?_ | refine g_skip hD ?_ | refine g_block hD ?_ | refine g_inBlock hD ?_ | refine g_inLoop hD ?_ | refine g_loop hD ?_ | refine g_ret hD ?_ | refine g_end hD ?_); intro _ h₁; replace hF := rl hF h₁; clear h₁) | ((with_reducible refine g_reg hD (fun _ h₁ => ?_)); replace hF := rl hF h₁; clear h₁; simp only [regN]) | ((with_reducible refine g_exit hD (k' := ?_) ?_ (fun _ h₁ => ?_)); rotate_left; (focus exact rfl); replace hF := rl hF h₁; clear h₁) | ((first | ((with_reducible refine g_ct hD ?_ ?_); (focus exact rfl)) | ((with_reducible refine g_cf hD ?_ ?_); (focus exact rfl))); intro _ h₁; replace hF := rl hF h₁; clear h₁))
  exact Goes.stop fun w₃ h₃ => hgo.out _ _ (rl hF h₃) rfl rfl rfl rfl rfl rfl


set_option maxRecDepth 100000 in
set_option maxHeartbeats 8000000 in
/-- From the loop's head to the call of function. -/
theorem ca_to {Stop : Goroutine → World → Prop} (hL : Ls Shun fc (codesV codes) w) (hlen : codes.length < 900000) (hx : codes[i]? = some c) {T : Array Value} (hs : T.size = 64) (t0 : T[0]? = some (.slice fa na ca)) (t1 : T[1]? = some (.slice fc codes.length cc)) (t5 : T[5]? = some (vf)) (t19 : T[19]? = some (.int .i64 codes.length)) (t20 : T[20]? = some (.int .i64 i)) (hF : FL Shun w S codes kbs vf w₁)
    (hgo : ∀ T w₁, FL Shun w S codes kbs vf w₁ → T.size = 64 → T[0]? = some (.slice fa na ca) → T[1]? = some (.slice fc codes.length cc) → T[5]? = some (vf) → T[19]? = some (.int .i64 codes.length) → T[20]? = some (.int .i64 i) → T[23]? = some vf → Stop (G ((base 12).at ⟨#[.int .u8 c, undef, undef, undef], []⟩ [.code body12]) ((base 4).at ⟨T, []⟩ (.inRegion (cO (cS bd4)) [5, 6, 7, 8] :: [.inBlock 1, .code (cS (cS (cS lp4))), .inLoop lp4, .inBlock 0, .code (tl4 4)]) :: cs)) w₁) :
    Goes Try.prog true AtRel (SD S) Stop 60 (G ((base 4).at ⟨T, []⟩ [.code lp4, .inLoop lp4, .inBlock 0, .code (tl4 4)]) cs) w₁ := by
  have hD : ∀ w, SD S w w #[] := sd_idle
  have rl : ∀ {w₁ w₂ : World}, FL Shun w S codes kbs vf w₁ → AtRel w₁ w₂ → FL Shun w S codes kbs vf w₂ := fun h r => FL.steady.rel h r
  obtain ⟨v0, v1, v2, v3, v4, v5, v6, v7, v8, v9, v10, v11, v12, v13, v14, v15, v16, v17, v18, v19, v20, v21, v22, v23, v24, v25, v26, v27, v28, v29, v30, v31, v32, v33, v34, v35, v36, v37, v38, v39, v40, v41, v42, v43, v44, v45, v46, v47, v48, v49, v50, v51, v52, v53, v54, v55, v56, v57, v58, v59, v60, v61, v62, v63, rfl⟩ := array64 T hs
  simp only [List.getElem?_toArray, List.getElem?_cons_zero, List.getElem?_cons_succ, Option.some.injEq] at t0 t1 t5 t19 t20
  subst t0 t1 t5 t19 t20
  clear hs
  have hi : i < codes.length := (List.getElem?_eq_some_iff.1 hx).1
  have hlt : decide ((i : Int) < (codes.length : Int)) = true := decide_eq_true (by omega)
  obtain ⟨bl, o, rfl, hsb, hcl⟩ := hL i (.int .u8 c) (by rw [List.getElem?_map, hx]; rfl)
  have hcell : ∀ w₁, Keep Shun w S w₁ → w₁.cell? ⟨bl, o + i, none⟩ = some (.int .u8 c) := fun w₁ h => (h.out.cell bl _ (cell_lt hcl) hsb).trans hcl
  have hsS : ¬ S bl := hF.keep.old (cell_lt hcl) hsb
  replace hlen := Hd.mk hlen
  replace hgo := Hd.mk hgo
  clear hL hcl hx
  simp only [body12, Try.f12, tl4, body4, lp4, bd4, cO, cS, cF, cI, Try.f4, Option.getD_some] at hgo ⊢
  repeat ((first | ((with_reducible refine g_opG ?_); (first | ((with_reducible refine g_unw hD (o := ?_) ?_ ?_ (fun _ h₁ => ?_)); rotate_left; (focus exact rfl); (focus exact rfl); replace hF := rl hF h₁; clear h₁; walk_nrm) | (refine Goes.step rfl (fun _ h₁ => ?_); replace hF := rl hF h₁; clear h₁; refine goes_oper_k rfl rfl (by k_ne) (fun K hK => ?_); go_simp; refine hK _ _ ⟨?_, ?_⟩; (focus (refine g_idle hD ?_; intro e he; have hm := mem_listed he; simp [go_sem, *] at hm; done)); clear hK K; try w_num))) | ((with_reducible first | refine g_regE hD ?_ | refine g_seq hD ?_ | refine g_skip hD ?_ | refine g_block hD ?_ | refine g_inBlock hD ?_ | refine g_inLoop hD ?_ | refine g_loop hD ?_ | refine g_ret hD ?_ | refine g_end hD ?_); intro _ h₁; replace hF := rl hF h₁; clear h₁) | ((with_reducible refine g_reg hD (fun _ h₁ => ?_)); replace hF := rl hF h₁; clear h₁; simp only [regN]) | ((with_reducible refine g_exit hD (k' := ?_) ?_ (fun _ h₁ => ?_)); rotate_left; (focus exact rfl); replace hF := rl hF h₁; clear h₁) | ((first | ((with_reducible refine g_ct hD ?_ ?_); (focus exact rfl)) | ((with_reducible refine g_cf hD ?_ ?_); (focus exact rfl))); intro _ h₁; replace hF := rl hF h₁; clear h₁)))
  refine Goes.step rfl fun w₂ h₂ => ?_
  replace hF := rl hF h₂
  clear h₂
  refine goes_oper_k rfl rfl (by decide) (fun K hK => ?_)
  have h1 := hcell _ hF.keep
  go_simp
  refine hK _ _ ⟨sd_read fun e he => ?_, ?_⟩
  · have hm := mem_listed he
    simp [go_sem, h1] at hm
    exact ⟨_, _, _, hm, hsS, cell_lt h1⟩
  clear hK K h1
  try walk_nrm
  ((with_reducible refine g_opG ?_); refine Goes.step rfl (fun _ h₁ => ?_); replace hF := rl hF h₁; clear h₁; refine goes_call rfl rfl (by k_ne) rfl Try.func12 rfl rfl ⟨by exact (g_idle hD (fun e he => by simp at he)), ?_⟩; walk_nrmf Try.f12)
  exact Goes.stop fun w₃ h₃ => hgo.out _ _ (rl hF h₃) rfl rfl rfl rfl rfl rfl rfl

set_option maxRecDepth 100000 in
set_option maxHeartbeats 8000000 in
/-- From the return of function to the loop's head. -/
theorem ca_back {Stop : Goroutine → World → Prop} (hlen : codes.length < 900000) (hx : codes[i]? = some c) (hkb : kbs.length = i) {T : Array Value} (hs : T.size = 64) (t0 : T[0]? = some (.slice fa na ca)) (t1 : T[1]? = some (.slice fc codes.length cc)) (t5 : T[5]? = some (vf)) (t19 : T[19]? = some (.int .i64 codes.length)) (t20 : T[20]? = some (.int .i64 i)) (u0 : T[23]? = some vf) (hF : FL Shun w S codes kbs vf w₁) (hc : Cel S kb (.int .u8 c) w₁)
    (hgo : ∀ T vf' w₁, FL Shun w S codes (kbs ++ [kb]) vf' w₁ → T.size = 64 → T[0]? = some (.slice fa na ca) → T[1]? = some (.slice fc codes.length cc) → T[5]? = some (vf') → T[19]? = some (.int .i64 codes.length) → T[20]? = some (.int .i64 (i + 1 : Nat)) → Stop (G ((base 4).at ⟨T, []⟩ [.code lp4, .inLoop lp4, .inBlock 0, .code (tl4 4)]) cs) w₁) :
    Goes Try.prog true AtRel (SD S) Stop 60 (G ((base 4).at ⟨T.setIfInBounds 28 (fnV kb), []⟩ (.inRegion (cO (cS bd4)) [6, 7, 8] :: [.inBlock 1, .code (cS (cS (cS lp4))), .inLoop lp4, .inBlock 0, .code (tl4 4)])) cs) w₁ := by
  have hD : ∀ w, SD S w w #[] := sd_idle
  obtain ⟨v0, v1, v2, v3, v4, v5, v6, v7, v8, v9, v10, v11, v12, v13, v14, v15, v16, v17, v18, v19, v20, v21, v22, v23, v24, v25, v26, v27, v28, v29, v30, v31, v32, v33, v34, v35, v36, v37, v38, v39, v40, v41, v42, v43, v44, v45, v46, v47, v48, v49, v50, v51, v52, v53, v54, v55, v56, v57, v58, v59, v60, v61, v62, v63, rfl⟩ := array64 T hs
  simp only [List.getElem?_toArray, List.getElem?_cons_zero, List.getElem?_cons_succ, Option.some.injEq] at t0 t1 t5 t19 t20 u0
  subst t0 t1 t5 t19 t20
  subst u0
  clear hs
  have hadd : IntKind.i64.wrap ((i : Int) + 1) = ((i + 1 : Nat) : Int) := by have := (List.getElem?_eq_some_iff.1 hx).1; rw [IntKind.wrap_i64]; omega
  replace hgo := Hd.mk hgo
  replace hlen := Hd.mk hlen
  replace hkb := Hd.mk hkb
  simp only [tl4, body4, lp4, bd4, cO, cS, cF, cI, Try.f4, Option.getD_some] at hgo ⊢
  try simp only [fnV]
  try walk_nrm
  refine Goes.step rfl fun w₂ h₂ => ?_
  replace hF := FL.steady.rel hF h₂
  replace hc : Cel S kb (.int .u8 c) w₂ := by obtain ⟨d, rfl⟩ := h₂; exact hc
  clear h₂
  refine goes_oper_k rfl rfl (by decide) (fun K hK => ?_)
  go_simp
  refine hK _ _ ⟨sd_new (by simp) (fun e he => ?_), ?_⟩
  · have hm := mem_listed he
    simp [go_sem] at hm
  clear hK K
  replace hF : FX Shun w S codes kbs _ w₂.heap.size kb c (w₂.alloc (.cells #[.func (.func 30) #[] #[ptr kb]] 28)) := FX.make hF hc
  clear hc
  generalize w₂.alloc (.cells #[.func (.func 30) #[] #[ptr kb]] 28) = w₃ at hF ⊢
  generalize w₂.heap.size = bx at hF ⊢
  clear w₂
  try walk_nrm
  refine Goes.step rfl fun w₄ h₄ => ?_
  replace hF := FX.steady.rel hF h₄
  clear h₄
  obtain ⟨v', w', hr, hrow', hgr, hb', hsd⟩ := sd_append (P := Try.prog) (ty := 37) (cx := 1) oneT37 hF.j.row hF.cell rfl (by have := hkb.out; have := (List.getElem?_eq_some_iff.1 hx).1; have := hlen.out; omega) hF.j.rowS hF.low (fun b hb => hF.j.keep.s66.lt hb)
  rw [stepG_value rfl rfl (by decide) (run_append_op _ _ 37 rfl rfl rfl hr)]
  simp only [goes_go]
  refine ⟨?_, ?_⟩
  · unfold listed
    rw [events_append_op _ _ 37 rfl rfl rfl]
    exact hsd _
  replace hF := hF.appended (by rw [hkb.out]; exact hx) hgr hrow' hb'
  clear hsd hr hgr hb' hrow' w₄
  have rl : ∀ {w₁ w₂ : World}, FL Shun w S codes (kbs ++ [kb]) v' w₁ → AtRel w₁ w₂ → FL Shun w S codes (kbs ++ [kb]) v' w₂ := fun h r => FL.steady.rel h r
  walk_nrm
  repeat ((first | ((with_reducible refine g_opG ?_); (first | ((with_reducible refine g_unw hD (o := ?_) ?_ ?_ (fun _ h₁ => ?_)); rotate_left; (focus exact rfl); (focus exact rfl); replace hF := rl hF h₁; clear h₁; walk_nrm) | (refine Goes.step rfl (fun _ h₁ => ?_); replace hF := rl hF h₁; clear h₁; refine goes_oper_k rfl rfl (by k_ne) (fun K hK => ?_); go_simp; refine hK _ _ ⟨?_, ?_⟩; (focus (refine g_idle hD ?_; intro e he; have hm := mem_listed he; simp [go_sem, *] at hm; done)); clear hK K; try w_num))) | ((with_reducible first | refine g_regE hD ?_ | refine g_seq hD ?_ | refine g_skip hD ?_ | refine g_block hD ?_ | refine g_inBlock hD ?_ | refine g_loop hD ?_ | refine g_ret hD ?_ | refine g_end hD ?_); intro _ h₁; replace hF := rl hF h₁; clear h₁) | ((with_reducible refine g_reg hD (fun _ h₁ => ?_)); replace hF := rl hF h₁; clear h₁; simp only [regN]) | ((with_reducible refine g_exit hD (k' := ?_) ?_ (fun _ h₁ => ?_)); rotate_left; (focus exact rfl); replace hF := rl hF h₁; clear h₁) | ((first | ((with_reducible refine g_ct hD ?_ ?_); (focus exact rfl)) | ((with_reducible refine g_cf hD ?_ ?_); (focus exact rfl))); intro _ h₁; replace hF := rl hF h₁; clear h₁)))
  (first | ((with_reducible refine g_opG ?_); (first | ((with_reducible refine g_unw hD (o := ?_) ?_ ?_ (fun _ h₁ => ?_)); rotate_left; (focus exact rfl); (focus exact rfl); replace hF := rl hF h₁; clear h₁; walk_nrm) | (refine Goes.step rfl (fun _ h₁ => ?_); replace hF := rl hF h₁; clear h₁; refine goes_oper_k rfl rfl (by k_ne) (fun K hK => ?_); go_simp; refine hK _ _ ⟨?_, ?_⟩; (focus (refine g_idle hD ?_; intro e he; have hm := mem_listed he; simp [go_sem, *] at hm; done)); clear hK K; try w_num))) | ((with_reducible first | refine g_regE hD ?_ | refine g_seq hD ?_ | refine g_skip hD ?_ | refine g_block hD ?_ | refine g_inBlock hD ?_ | refine g_inLoop hD ?_ | refine g_loop hD ?_ | refine g_ret hD ?_ | refine g_end hD ?_); intro _ h₁; replace hF := rl hF h₁; clear h₁) | ((with_reducible refine g_reg hD (fun _ h₁ => ?_)); replace hF := rl hF h₁; clear h₁; simp only [regN]) | ((with_reducible refine g_exit hD (k' := ?_) ?_ (fun _ h₁ => ?_)); rotate_left; (focus exact rfl); replace hF := rl hF h₁; clear h₁) | ((first | ((with_reducible refine g_ct hD ?_ ?_); (focus exact rfl)) | ((with_reducible refine g_cf hD ?_ ?_); (focus exact rfl))); intro _ h₁; replace hF := rl hF h₁; clear h₁))
  exact Goes.stop fun w₁ h₁ => hgo.out _ _ _ (rl hF h₁) rfl rfl rfl rfl rfl rfl
set_option maxRecDepth 100000 in
set_option maxHeartbeats 8000000 in
theorem ca3 {Stop : Goroutine → World → Prop}  {F0 : World → Prop} (hF : F0 w) (s0 : Steady F0) {T : Array Value} (hs : T.size = 64) (t0 : T[0]? = some (.slice fa na ca)) (t1 : T[1]? = some (.slice fc nc cc)) (t5 : T[5]? = some (vf)) (t19 : T[19]? = some (.int .i64 nc)) (t20 : T[20]? = some (.int .i64 nc)) (_hlt : decide ((nc : Int) < (nc : Int)) = false)
    (hgo : ∀ T w, F0 w → T.size = 64 → T[0]? = some (.slice fa na ca) → T[1]? = some (.slice fc nc cc) → T[5]? = some (vf) → Stop (G ((base 13).at ⟨#[.slice fa na ca, undef, undef, undef], []⟩ [.code body13]) ((base 4).at ⟨T, []⟩ (.inRegion (cO (cF (tl4 4))) [1, 2, 3, 4, 5, 6, 7, 8] :: [.code (tl4 5)]) :: cs)) w) :
    Goes Try.prog true AtRel (SD Shun) Stop 60 (G ((base 4).at ⟨T, []⟩ [.code lp4, .inLoop lp4, .inBlock 0, .code (tl4 4)]) cs) w := by
  have hD : ∀ w, SD Shun w w #[] := sd_idle
  have rl : ∀ {w w₁ : World}, F0 w → AtRel w w₁ → F0 w₁ := fun h r => s0.rel h r
  replace hgo := Hd.mk hgo
  obtain ⟨v0, v1, v2, v3, v4, v5, v6, v7, v8, v9, v10, v11, v12, v13, v14, v15, v16, v17, v18, v19, v20, v21, v22, v23, v24, v25, v26, v27, v28, v29, v30, v31, v32, v33, v34, v35, v36, v37, v38, v39, v40, v41, v42, v43, v44, v45, v46, v47, v48, v49, v50, v51, v52, v53, v54, v55, v56, v57, v58, v59, v60, v61, v62, v63, rfl⟩ := array64 T hs
  simp only [List.getElem?_toArray, List.getElem?_cons_zero, List.getElem?_cons_succ, Option.some.injEq] at t0 t1 t5 t19 t20
  subst t0 t1 t5 t19 t20
  clear hs
  simp only [tl4, body4, lp4, cO, cS, cF, cI, Try.f4, Option.getD_some, body13, Try.f13] at hgo ⊢
  try walk_nrm
  repeat ((first | ((with_reducible refine g_opG ?_); (first | ((with_reducible refine g_unw hD (o := ?_) ?_ ?_ (fun _ h₁ => ?_)); rotate_left; (focus exact rfl); (focus exact rfl); replace hF := rl hF h₁; clear h₁; walk_nrm) | (refine Goes.step rfl (fun _ h₁ => ?_); replace hF := rl hF h₁; clear h₁; refine goes_oper_k rfl rfl (by k_ne) (fun K hK => ?_); go_simp; refine hK _ _ ⟨?_, ?_⟩; (focus (refine g_idle hD ?_; intro e he; have hm := mem_listed he; simp [go_sem, *] at hm; done)); clear hK K; try w_num))) | ((with_reducible first | refine g_regE hD ?_ | refine g_seq hD ?_ | refine g_skip hD ?_ | refine g_block hD ?_ | refine g_inBlock hD ?_ | refine g_inLoop hD ?_ | refine g_loop hD ?_ | refine g_ret hD ?_ | refine g_end hD ?_); intro _ h₁; replace hF := rl hF h₁; clear h₁) | ((with_reducible refine g_reg hD (fun _ h₁ => ?_)); replace hF := rl hF h₁; clear h₁; simp only [regN]) | ((with_reducible refine g_exit hD (k' := ?_) ?_ (fun _ h₁ => ?_)); rotate_left; (focus exact rfl); replace hF := rl hF h₁; clear h₁) | ((first | ((with_reducible refine g_ct hD ?_ ?_); (focus exact rfl)) | ((with_reducible refine g_cf hD ?_ ?_); (focus exact rfl))); intro _ h₁; replace hF := rl hF h₁; clear h₁)))
  ((with_reducible refine g_opG ?_); refine Goes.step rfl (fun _ h₁ => ?_); replace hF := rl hF h₁; clear h₁; refine goes_call rfl rfl (by k_ne) rfl Try.func13 rfl rfl ⟨by exact (g_idle hD (fun e he => by simp at he)), ?_⟩; walk_nrmf Try.f13)
  exact Goes.stop fun w₃ h₃ => hgo.out _ _ (rl hF h₃) rfl rfl rfl rfl

set_option maxRecDepth 100000 in
set_option maxHeartbeats 8000000 in
theorem ca4 {Stop : Goroutine → World → Prop}  {F0 : World → Prop} (hF : F0 w) (s0 : Steady F0) {T : Array Value} (hs : T.size = 64) (t0 : T[0]? = some (.slice fa na ca)) (t1 : T[1]? = some (.slice fc nc cc)) (t5 : T[5]? = some (.slice ff nf cf))
    (hgo : ∀ T w, F0 w → T.size = 64 → T[0]? = some (.slice fa na ca) → T[1]? = some (.slice fc nc cc) → Stop (G ((base 16).at ⟨#[seqV kl, .slice ff nf cf, undef, undef, undef, undef, undef, undef, undef, undef, undef, undef, undef, undef, undef, undef, undef, undef, undef, undef, undef, undef, undef, undef, undef, undef, undef, undef, undef, undef, undef, undef, undef, undef, undef, undef, undef, undef, undef, undef, undef, undef, undef, undef, undef, undef, undef, undef, undef], []⟩ [.code body16]) ((base 4).at ⟨T, []⟩ (.inRegion (cO (cF (tl4 4))) [3, 4, 5, 6, 7, 8] :: [.code (tl4 5)]) :: cs)) w) :
    Goes Try.prog true AtRel (SD Shun) Stop 60 (G ((base 4).at ⟨T.setIfInBounds 34 (seqV kl), []⟩ (.inRegion (cO (cF (tl4 4))) [2, 3, 4, 5, 6, 7, 8] :: [.code (tl4 5)])) cs) w := by
  have hD : ∀ w, SD Shun w w #[] := sd_idle
  have rl : ∀ {w w₁ : World}, F0 w → AtRel w w₁ → F0 w₁ := fun h r => s0.rel h r
  replace hgo := Hd.mk hgo
  obtain ⟨v0, v1, v2, v3, v4, v5, v6, v7, v8, v9, v10, v11, v12, v13, v14, v15, v16, v17, v18, v19, v20, v21, v22, v23, v24, v25, v26, v27, v28, v29, v30, v31, v32, v33, v34, v35, v36, v37, v38, v39, v40, v41, v42, v43, v44, v45, v46, v47, v48, v49, v50, v51, v52, v53, v54, v55, v56, v57, v58, v59, v60, v61, v62, v63, rfl⟩ := array64 T hs
  simp only [List.getElem?_toArray, List.getElem?_cons_zero, List.getElem?_cons_succ, Option.some.injEq] at t0 t1 t5
  subst t0 t1 t5
  clear hs
  simp only [tl4, body4, cO, cS, cF, Try.f4, Option.getD_some, body16, Try.f16] at hgo ⊢
  try walk_nrm
  repeat ((first | ((with_reducible refine g_opG ?_); (first | ((with_reducible refine g_unw hD (o := ?_) ?_ ?_ (fun _ h₁ => ?_)); rotate_left; (focus exact rfl); (focus exact rfl); replace hF := rl hF h₁; clear h₁; walk_nrm) | (refine Goes.step rfl (fun _ h₁ => ?_); replace hF := rl hF h₁; clear h₁; refine goes_oper_k rfl rfl (by k_ne) (fun K hK => ?_); go_simp; refine hK _ _ ⟨?_, ?_⟩; (focus (refine g_idle hD ?_; intro e he; have hm := mem_listed he; simp [go_sem, *] at hm; done)); clear hK K; try w_num))) | ((with_reducible first | refine g_regE hD ?_ | refine g_seq hD ?_ | refine g_skip hD ?_ | refine g_block hD ?_ | refine g_inBlock hD ?_ | refine g_inLoop hD ?_ | refine g_loop hD ?_ | refine g_ret hD ?_ | refine g_end hD ?_); intro _ h₁; replace hF := rl hF h₁; clear h₁) | ((with_reducible refine g_reg hD (fun _ h₁ => ?_)); replace hF := rl hF h₁; clear h₁; simp only [regN]) | ((with_reducible refine g_exit hD (k' := ?_) ?_ (fun _ h₁ => ?_)); rotate_left; (focus exact rfl); replace hF := rl hF h₁; clear h₁) | ((first | ((with_reducible refine g_ct hD ?_ ?_); (focus exact rfl)) | ((with_reducible refine g_cf hD ?_ ?_); (focus exact rfl))); intro _ h₁; replace hF := rl hF h₁; clear h₁)))
  ((with_reducible refine g_opG ?_); refine Goes.step rfl (fun _ h₁ => ?_); replace hF := rl hF h₁; clear h₁; refine goes_call rfl rfl (by k_ne) rfl Try.func16 rfl rfl ⟨by exact (g_idle hD (fun e he => by simp at he)), ?_⟩; walk_nrmf Try.f16)
  exact Goes.stop fun w₃ h₃ => hgo.out _ _ (rl hF h₃) rfl rfl rfl

set_option maxRecDepth 100000 in
set_option maxHeartbeats 8000000 in
theorem ca5 {Stop : Goroutine → World → Prop}  {F0 : World → Prop} (hF : F0 w) (s0 : Steady F0) {T : Array Value} (hs : T.size = 64) (t0 : T[0]? = some (.slice fa na ca)) (t1 : T[1]? = some (.slice fc nc cc)) (hgt : decide (16 < (nc : Int)) = false)
    (hgo : ∀ T w, F0 w → T.size = 64 → T[8]? = some (.int .i64 0) → T[52]? = some (v1) → Stop (G ((base 17).at ⟨#[.slice fc nc cc, .slice fa na ca, undef, undef, undef, undef, undef, undef, undef, undef, undef, undef, undef, undef, undef, undef, undef, undef, undef, undef, undef, undef, undef], []⟩ [.code body17]) ((base 4).at ⟨T, []⟩ (.inRegion (cO (cF (tl4 6))) [3, 4, 5, 6, 7, 8, 9, 10, 11, 12] :: [.code (cS (tl4 6))]) :: cs)) w) :
    Goes Try.prog true AtRel (SD Shun) Stop 60 (G ((base 4).at ⟨T.setIfInBounds 36 (.tuple #[v1, .int .i64 0]), []⟩ (.inRegion (cO (cF (tl4 4))) [4, 5, 6, 7, 8] :: [.code (tl4 5)])) cs) w := by
  have hD : ∀ w, SD Shun w w #[] := sd_idle
  have rl : ∀ {w w₁ : World}, F0 w → AtRel w w₁ → F0 w₁ := fun h r => s0.rel h r
  replace hgo := Hd.mk hgo
  obtain ⟨v0, v1, v2, v3, v4, v5, v6, v7, v8, v9, v10, v11, v12, v13, v14, v15, v16, v17, v18, v19, v20, v21, v22, v23, v24, v25, v26, v27, v28, v29, v30, v31, v32, v33, v34, v35, v36, v37, v38, v39, v40, v41, v42, v43, v44, v45, v46, v47, v48, v49, v50, v51, v52, v53, v54, v55, v56, v57, v58, v59, v60, v61, v62, v63, rfl⟩ := array64 T hs
  simp only [List.getElem?_toArray, List.getElem?_cons_zero, List.getElem?_cons_succ, Option.some.injEq] at t0 t1
  subst t0 t1
  clear hs
  simp only [tl4, body4, cO, cS, cF, Try.f4, Option.getD_some, body17, Try.f17] at hgo ⊢
  try walk_nrm
  repeat ((first | ((with_reducible refine g_opG ?_); (first | ((with_reducible refine g_unw hD (o := ?_) ?_ ?_ (fun _ h₁ => ?_)); rotate_left; (focus exact rfl); (focus exact rfl); replace hF := rl hF h₁; clear h₁; walk_nrm) | (refine Goes.step rfl (fun _ h₁ => ?_); replace hF := rl hF h₁; clear h₁; refine goes_oper_k rfl rfl (by k_ne) (fun K hK => ?_); go_simp; refine hK _ _ ⟨?_, ?_⟩; (focus (refine g_idle hD ?_; intro e he; have hm := mem_listed he; simp [go_sem, *] at hm; done)); clear hK K; try w_num))) | ((with_reducible first | refine g_regE hD ?_ | refine g_seq hD ?_ | refine g_skip hD ?_ | refine g_block hD ?_ | refine g_inBlock hD ?_ | refine g_inLoop hD ?_ | refine g_loop hD ?_ | refine g_ret hD ?_ | refine g_end hD ?_); intro _ h₁; replace hF := rl hF h₁; clear h₁) | ((with_reducible refine g_reg hD (fun _ h₁ => ?_)); replace hF := rl hF h₁; clear h₁; simp only [regN]) | ((with_reducible refine g_exit hD (k' := ?_) ?_ (fun _ h₁ => ?_)); rotate_left; (focus exact rfl); replace hF := rl hF h₁; clear h₁) | ((first | ((with_reducible refine g_ct hD ?_ ?_); (focus exact rfl)) | ((with_reducible refine g_cf hD ?_ ?_); (focus exact rfl))); intro _ h₁; replace hF := rl hF h₁; clear h₁)))
  ((with_reducible refine g_opG ?_); refine Goes.step rfl (fun _ h₁ => ?_); replace hF := rl hF h₁; clear h₁; refine goes_call rfl rfl (by k_ne) rfl Try.func17 rfl rfl ⟨by exact (g_idle hD (fun e he => by simp at he)), ?_⟩; walk_nrmf Try.f17)
  exact Goes.stop fun w₃ h₃ => hgo.out _ _ (rl hF h₃) rfl rfl rfl

set_option maxRecDepth 100000 in
set_option maxHeartbeats 8000000 in
theorem ca6 {Stop : Goroutine → World → Prop}  {F0 : World → Prop} (hF : F0 w) (s0 : Steady F0) {T : Array Value} (hs : T.size = 64) (t8 : T[8]? = some (.int .i64 0)) (t52 : T[52]? = some (.slice fa na ca))
    (hgo : ∀ T w, F0 w → T.size = 64 → T[8]? = some (.int .i64 0) → Stop (G ((base 14).at ⟨#[.slice fa na ca, .slice fb nb cb, undef, undef, undef, undef, undef, undef, undef, undef, undef, undef, undef, undef, undef, undef, undef, undef, undef, undef, undef, undef, undef, undef, undef, undef], []⟩ [.code body14]) ((base 4).at ⟨T, []⟩ (.inRegion (cO (cF (tl4 6))) [4, 5, 6, 7, 8, 9, 10, 11, 12] :: [.code (cS (tl4 6))]) :: cs)) w) :
    Goes Try.prog true AtRel (SD Shun) Stop 60 (G ((base 4).at ⟨T.setIfInBounds 55 (.slice fb nb cb), []⟩ (.inRegion (cO (cF (tl4 6))) [4, 5, 6, 7, 8, 9, 10, 11, 12] :: [.code (cS (tl4 6))])) cs) w := by
  have hD : ∀ w, SD Shun w w #[] := sd_idle
  have rl : ∀ {w w₁ : World}, F0 w → AtRel w w₁ → F0 w₁ := fun h r => s0.rel h r
  replace hgo := Hd.mk hgo
  obtain ⟨v0, v1, v2, v3, v4, v5, v6, v7, v8, v9, v10, v11, v12, v13, v14, v15, v16, v17, v18, v19, v20, v21, v22, v23, v24, v25, v26, v27, v28, v29, v30, v31, v32, v33, v34, v35, v36, v37, v38, v39, v40, v41, v42, v43, v44, v45, v46, v47, v48, v49, v50, v51, v52, v53, v54, v55, v56, v57, v58, v59, v60, v61, v62, v63, rfl⟩ := array64 T hs
  simp only [List.getElem?_toArray, List.getElem?_cons_zero, List.getElem?_cons_succ, Option.some.injEq] at t8 t52
  subst t8 t52
  clear hs
  simp only [tl4, body4, cO, cS, cF, Try.f4, Option.getD_some, body14, Try.f14] at hgo ⊢
  try walk_nrm
  repeat ((first | ((with_reducible refine g_opG ?_); (first | ((with_reducible refine g_unw hD (o := ?_) ?_ ?_ (fun _ h₁ => ?_)); rotate_left; (focus exact rfl); (focus exact rfl); replace hF := rl hF h₁; clear h₁; walk_nrm) | (refine Goes.step rfl (fun _ h₁ => ?_); replace hF := rl hF h₁; clear h₁; refine goes_oper_k rfl rfl (by k_ne) (fun K hK => ?_); go_simp; refine hK _ _ ⟨?_, ?_⟩; (focus (refine g_idle hD ?_; intro e he; have hm := mem_listed he; simp [go_sem, *] at hm; done)); clear hK K; try w_num))) | ((with_reducible first | refine g_regE hD ?_ | refine g_seq hD ?_ | refine g_skip hD ?_ | refine g_block hD ?_ | refine g_inBlock hD ?_ | refine g_inLoop hD ?_ | refine g_loop hD ?_ | refine g_ret hD ?_ | refine g_end hD ?_); intro _ h₁; replace hF := rl hF h₁; clear h₁) | ((with_reducible refine g_reg hD (fun _ h₁ => ?_)); replace hF := rl hF h₁; clear h₁; simp only [regN]) | ((with_reducible refine g_exit hD (k' := ?_) ?_ (fun _ h₁ => ?_)); rotate_left; (focus exact rfl); replace hF := rl hF h₁; clear h₁) | ((first | ((with_reducible refine g_ct hD ?_ ?_); (focus exact rfl)) | ((with_reducible refine g_cf hD ?_ ?_); (focus exact rfl))); intro _ h₁; replace hF := rl hF h₁; clear h₁)))
  ((with_reducible refine g_opG ?_); refine Goes.step rfl (fun _ h₁ => ?_); replace hF := rl hF h₁; clear h₁; refine goes_call rfl rfl (by k_ne) rfl Try.func14 rfl rfl ⟨by exact (g_idle hD (fun e he => by simp at he)), ?_⟩; walk_nrmf Try.f14)
  exact Goes.stop fun w₃ h₃ => hgo.out _ _ (rl hF h₃) rfl rfl

set_option maxRecDepth 100000 in
set_option maxHeartbeats 8000000 in
theorem ca7 {Stop : Goroutine → World → Prop}  {F0 : World → Prop} (hF : F0 w) (s0 : Steady F0) {T : Array Value} (hs : T.size = 64) (t8 : T[8]? = some (.int .i64 0))
    (hgo : ∀ T w, F0 w → T.size = 64 → T[61]? = some (.bool true) → Stop (G ((base 10).at ⟨#[undef, undef, undef, undef, undef, undef, undef, undef, undef, undef, undef, undef, undef, undef, undef, undef, undef, undef, undef, undef, undef, undef, undef, undef, undef, undef, undef, undef, undef, undef, undef, undef, undef, undef, undef, undef, undef, undef, undef, undef, undef, undef, undef, undef, undef, undef, undef, undef, undef], []⟩ [.code body10]) ((base 4).at ⟨T, []⟩ (.inRegion (cO (cF (tl4 6))) [10, 11, 12] :: [.code (cS (tl4 6))]) :: cs)) w) :
    Goes Try.prog true AtRel (SD Shun) Stop 60 (G ((base 4).at ⟨T.setIfInBounds 56 (.bool true), []⟩ (.inRegion (cO (cF (tl4 6))) [5, 6, 7, 8, 9, 10, 11, 12] :: [.code (cS (tl4 6))])) cs) w := by
  have hD : ∀ w, SD Shun w w #[] := sd_idle
  have rl : ∀ {w w₁ : World}, F0 w → AtRel w w₁ → F0 w₁ := fun h r => s0.rel h r
  replace hgo := Hd.mk hgo
  obtain ⟨v0, v1, v2, v3, v4, v5, v6, v7, v8, v9, v10, v11, v12, v13, v14, v15, v16, v17, v18, v19, v20, v21, v22, v23, v24, v25, v26, v27, v28, v29, v30, v31, v32, v33, v34, v35, v36, v37, v38, v39, v40, v41, v42, v43, v44, v45, v46, v47, v48, v49, v50, v51, v52, v53, v54, v55, v56, v57, v58, v59, v60, v61, v62, v63, rfl⟩ := array64 T hs
  simp only [List.getElem?_toArray, List.getElem?_cons_zero, List.getElem?_cons_succ, Option.some.injEq] at t8
  subst t8
  clear hs
  simp only [tl4, body4, cO, cS, cF, Try.f4, Option.getD_some, body10, Try.f10] at hgo ⊢
  try walk_nrm
  repeat ((first | ((with_reducible refine g_opG ?_); (first | ((with_reducible refine g_unw hD (o := ?_) ?_ ?_ (fun _ h₁ => ?_)); rotate_left; (focus exact rfl); (focus exact rfl); replace hF := rl hF h₁; clear h₁; walk_nrm) | (refine Goes.step rfl (fun _ h₁ => ?_); replace hF := rl hF h₁; clear h₁; refine goes_oper_k rfl rfl (by k_ne) (fun K hK => ?_); go_simp; refine hK _ _ ⟨?_, ?_⟩; (focus (refine g_idle hD ?_; intro e he; have hm := mem_listed he; simp [go_sem, *] at hm; done)); clear hK K; try w_num))) | ((with_reducible first | refine g_regE hD ?_ | refine g_seq hD ?_ | refine g_skip hD ?_ | refine g_block hD ?_ | refine g_inBlock hD ?_ | refine g_inLoop hD ?_ | refine g_loop hD ?_ | refine g_ret hD ?_ | refine g_end hD ?_); intro _ h₁; replace hF := rl hF h₁; clear h₁) | ((with_reducible refine g_reg hD (fun _ h₁ => ?_)); replace hF := rl hF h₁; clear h₁; simp only [regN]) | ((with_reducible refine g_exit hD (k' := ?_) ?_ (fun _ h₁ => ?_)); rotate_left; (focus exact rfl); replace hF := rl hF h₁; clear h₁) | ((first | ((with_reducible refine g_ct hD ?_ ?_); (focus exact rfl)) | ((with_reducible refine g_cf hD ?_ ?_); (focus exact rfl))); intro _ h₁; replace hF := rl hF h₁; clear h₁)))
  ((with_reducible refine g_opG ?_); refine Goes.step rfl (fun _ h₁ => ?_); replace hF := rl hF h₁; clear h₁; refine goes_call rfl rfl (by k_ne) rfl Try.func10 rfl rfl ⟨by exact (g_idle hD (fun e he => by simp at he)), ?_⟩; walk_nrmf Try.f10)
  exact Goes.stop fun w₃ h₃ => hgo.out _ _ (rl hF h₃) rfl rfl

set_option maxRecDepth 100000 in
set_option maxHeartbeats 8000000 in
theorem ca8 {Stop : Goroutine → World → Prop}  {F0 : World → Prop} (hF : F0 w) (s0 : Steady F0) {T : Array Value} (hs : T.size = 64) (t61 : T[61]? = some (.bool true))
    (hgo : ∀ T k w, F0 w → T.size = 64 → T[4]? = some (.bool true) → Stop (G { (base 4).at ⟨T, []⟩ k with mode := .returning } []) w) :
    Goes Try.prog true AtRel (SD Shun) Stop 60 (G ((base 4).at ⟨T.setIfInBounds 62 (.bool true), []⟩ (.inRegion (cO (cF (tl4 6))) [11, 12] :: [.code (cS (tl4 6))])) []) w := by
  have hD : ∀ w, SD Shun w w #[] := sd_idle
  have rl : ∀ {w w₁ : World}, F0 w → AtRel w w₁ → F0 w₁ := fun h r => s0.rel h r
  replace hgo := Hd.mk hgo
  obtain ⟨v0, v1, v2, v3, v4, v5, v6, v7, v8, v9, v10, v11, v12, v13, v14, v15, v16, v17, v18, v19, v20, v21, v22, v23, v24, v25, v26, v27, v28, v29, v30, v31, v32, v33, v34, v35, v36, v37, v38, v39, v40, v41, v42, v43, v44, v45, v46, v47, v48, v49, v50, v51, v52, v53, v54, v55, v56, v57, v58, v59, v60, v61, v62, v63, rfl⟩ := array64 T hs
  simp only [List.getElem?_toArray, List.getElem?_cons_zero, List.getElem?_cons_succ, Option.some.injEq] at t61
  subst t61
  clear hs
  simp only [tl4, body4, cO, cS, cF, Try.f4, Option.getD_some] at hgo ⊢
  try walk_nrm
  repeat ((first | ((with_reducible refine g_opG ?_); (first | ((with_reducible refine g_unw hD (o := ?_) ?_ ?_ (fun _ h₁ => ?_)); rotate_left; (focus exact rfl); (focus exact rfl); replace hF := rl hF h₁; clear h₁; walk_nrm) | (refine Goes.step rfl (fun _ h₁ => ?_); replace hF := rl hF h₁; clear h₁; refine goes_oper_k rfl rfl (by k_ne) (fun K hK => ?_); go_simp; refine hK _ _ ⟨?_, ?_⟩; (focus (refine g_idle hD ?_; intro e he; have hm := mem_listed he; simp [go_sem, *] at hm; done)); clear hK K; try w_num))) | ((with_reducible first | refine g_regE hD ?_ | refine g_seq hD ?_ | refine g_skip hD ?_ | refine g_block hD ?_ | refine g_inBlock hD ?_ | refine g_inLoop hD ?_ | refine g_loop hD ?_ | refine g_ret hD ?_ | refine g_end hD ?_); intro _ h₁; replace hF := rl hF h₁; clear h₁) | ((with_reducible refine g_reg hD (fun _ h₁ => ?_)); replace hF := rl hF h₁; clear h₁; simp only [regN]) | ((with_reducible refine g_exit hD (k' := ?_) ?_ (fun _ h₁ => ?_)); rotate_left; (focus exact rfl); replace hF := rl hF h₁; clear h₁) | ((first | ((with_reducible refine g_ct hD ?_ ?_); (focus exact rfl)) | ((with_reducible refine g_cf hD ?_ ?_); (focus exact rfl))); intro _ h₁; replace hF := rl hF h₁; clear h₁)))
  exact Goes.stop fun w₃ h₃ => hgo.out _ _ _ (rl hF h₃) rfl rfl

set_option maxRecDepth 100000 in
set_option maxHeartbeats 8000000 in
theorem ca9 {Stop : Goroutine → World → Prop}  {F0 : World → Prop} (hF : F0 w) (s0 : Steady F0) {T : Array Value} (hs : T.size = 64) (t1 : T[1]? = some (.slice fc nc cc)) (hgt : decide (16 < (nc : Int)) = true)
    (hgo : ∀ T w, F0 w → T.size = 64 → T[49]? = some (.bool true) → Stop (G ((base 10).at ⟨#[undef, undef, undef, undef, undef, undef, undef, undef, undef, undef, undef, undef, undef, undef, undef, undef, undef, undef, undef, undef, undef, undef, undef, undef, undef, undef, undef, undef, undef, undef, undef, undef, undef, undef, undef, undef, undef, undef, undef, undef, undef, undef, undef, undef, undef, undef, undef, undef, undef], []⟩ [.code body10]) ((base 4).at ⟨T, []⟩ (.inRegion (cO (cF (cT (cS (cF (tl4 5)))))) [8, 9, 10] :: [.code (cS (cT (cS (cF (tl4 5))))), .code (tl4 6)]) :: cs)) w) :
    Goes Try.prog true AtRel (SD Shun) Stop 60 (G ((base 4).at ⟨T.setIfInBounds 36 (.tuple #[.slice none 0 0, .int .i64 1]), []⟩ (.inRegion (cO (cF (tl4 4))) [4, 5, 6, 7, 8] :: [.code (tl4 5)])) cs) w := by
  have hD : ∀ w, SD Shun w w #[] := sd_idle
  have rl : ∀ {w w₁ : World}, F0 w → AtRel w w₁ → F0 w₁ := fun h r => s0.rel h r
  replace hgo := Hd.mk hgo
  obtain ⟨v0, v1, v2, v3, v4, v5, v6, v7, v8, v9, v10, v11, v12, v13, v14, v15, v16, v17, v18, v19, v20, v21, v22, v23, v24, v25, v26, v27, v28, v29, v30, v31, v32, v33, v34, v35, v36, v37, v38, v39, v40, v41, v42, v43, v44, v45, v46, v47, v48, v49, v50, v51, v52, v53, v54, v55, v56, v57, v58, v59, v60, v61, v62, v63, rfl⟩ := array64 T hs
  simp only [List.getElem?_toArray, List.getElem?_cons_zero, List.getElem?_cons_succ, Option.some.injEq] at t1
  subst t1
  clear hs
  simp only [tl4, body4, cT, cO, cS, cF, Try.f4, Option.getD_some, body10, Try.f10] at hgo ⊢
  try walk_nrm
  repeat ((first | ((with_reducible refine g_opG ?_); (first | ((with_reducible refine g_unw hD (o := ?_) ?_ ?_ (fun _ h₁ => ?_)); rotate_left; (focus exact rfl); (focus exact rfl); replace hF := rl hF h₁; clear h₁; walk_nrm) | (refine Goes.step rfl (fun _ h₁ => ?_); replace hF := rl hF h₁; clear h₁; refine goes_oper_k rfl rfl (by k_ne) (fun K hK => ?_); go_simp; refine hK _ _ ⟨?_, ?_⟩; (focus (refine g_idle hD ?_; intro e he; have hm := mem_listed he; simp [go_sem, *] at hm; done)); clear hK K; try w_num))) | ((with_reducible first | refine g_regE hD ?_ | refine g_seq hD ?_ | refine g_skip hD ?_ | refine g_block hD ?_ | refine g_inBlock hD ?_ | refine g_inLoop hD ?_ | refine g_loop hD ?_ | refine g_ret hD ?_ | refine g_end hD ?_); intro _ h₁; replace hF := rl hF h₁; clear h₁) | ((with_reducible refine g_reg hD (fun _ h₁ => ?_)); replace hF := rl hF h₁; clear h₁; simp only [regN]) | ((with_reducible refine g_exit hD (k' := ?_) ?_ (fun _ h₁ => ?_)); rotate_left; (focus exact rfl); replace hF := rl hF h₁; clear h₁) | ((first | ((with_reducible refine g_ct hD ?_ ?_); (focus exact rfl)) | ((with_reducible refine g_cf hD ?_ ?_); (focus exact rfl))); intro _ h₁; replace hF := rl hF h₁; clear h₁)))
  ((with_reducible refine g_opG ?_); refine Goes.step rfl (fun _ h₁ => ?_); replace hF := rl hF h₁; clear h₁; refine goes_call rfl rfl (by k_ne) rfl Try.func10 rfl rfl ⟨by exact (g_idle hD (fun e he => by simp at he)), ?_⟩; walk_nrmf Try.f10)
  exact Goes.stop fun w₃ h₃ => hgo.out _ _ (rl hF h₃) rfl rfl

set_option maxRecDepth 100000 in
set_option maxHeartbeats 8000000 in
theorem ca10 {Stop : Goroutine → World → Prop}  {F0 : World → Prop} (hF : F0 w) (s0 : Steady F0) {T : Array Value} (hs : T.size = 64) (t49 : T[49]? = some (.bool true))
    (hgo : ∀ T k w, F0 w → T.size = 64 → T[4]? = some (.bool true) → Stop (G { (base 4).at ⟨T, []⟩ k with mode := .returning } []) w) :
    Goes Try.prog true AtRel (SD Shun) Stop 60 (G ((base 4).at ⟨T.setIfInBounds 50 (.bool true), []⟩ (.inRegion (cO (cF (cT (cS (cF (tl4 5)))))) [9, 10] :: [.code (cS (cT (cS (cF (tl4 5))))), .code (tl4 6)])) []) w := by
  have hD : ∀ w, SD Shun w w #[] := sd_idle
  have rl : ∀ {w w₁ : World}, F0 w → AtRel w w₁ → F0 w₁ := fun h r => s0.rel h r
  replace hgo := Hd.mk hgo
  obtain ⟨v0, v1, v2, v3, v4, v5, v6, v7, v8, v9, v10, v11, v12, v13, v14, v15, v16, v17, v18, v19, v20, v21, v22, v23, v24, v25, v26, v27, v28, v29, v30, v31, v32, v33, v34, v35, v36, v37, v38, v39, v40, v41, v42, v43, v44, v45, v46, v47, v48, v49, v50, v51, v52, v53, v54, v55, v56, v57, v58, v59, v60, v61, v62, v63, rfl⟩ := array64 T hs
  simp only [List.getElem?_toArray, List.getElem?_cons_zero, List.getElem?_cons_succ, Option.some.injEq] at t49
  subst t49
  clear hs
  simp only [tl4, body4, cT, cO, cS, cF, Try.f4, Option.getD_some] at hgo ⊢
  try walk_nrm
  repeat ((first | ((with_reducible refine g_opG ?_); (first | ((with_reducible refine g_unw hD (o := ?_) ?_ ?_ (fun _ h₁ => ?_)); rotate_left; (focus exact rfl); (focus exact rfl); replace hF := rl hF h₁; clear h₁; walk_nrm) | (refine Goes.step rfl (fun _ h₁ => ?_); replace hF := rl hF h₁; clear h₁; refine goes_oper_k rfl rfl (by k_ne) (fun K hK => ?_); go_simp; refine hK _ _ ⟨?_, ?_⟩; (focus (refine g_idle hD ?_; intro e he; have hm := mem_listed he; simp [go_sem, *] at hm; done)); clear hK K; try w_num))) | ((with_reducible first | refine g_regE hD ?_ | refine g_seq hD ?_ | refine g_skip hD ?_ | refine g_block hD ?_ | refine g_inBlock hD ?_ | refine g_inLoop hD ?_ | refine g_loop hD ?_ | refine g_ret hD ?_ | refine g_end hD ?_); intro _ h₁; replace hF := rl hF h₁; clear h₁) | ((with_reducible refine g_reg hD (fun _ h₁ => ?_)); replace hF := rl hF h₁; clear h₁; simp only [regN]) | ((with_reducible refine g_exit hD (k' := ?_) ?_ (fun _ h₁ => ?_)); rotate_left; (focus exact rfl); replace hF := rl hF h₁; clear h₁) | ((first | ((with_reducible refine g_ct hD ?_ ?_); (focus exact rfl)) | ((with_reducible refine g_cf hD ?_ ?_); (focus exact rfl))); intro _ h₁; replace hF := rl hF h₁; clear h₁)))
  exact Goes.stop fun w₃ h₃ => hgo.out _ _ _ (rl hF h₃) rfl rfl

end
end Go.Proofs.Ytblpmdolclalnaa
