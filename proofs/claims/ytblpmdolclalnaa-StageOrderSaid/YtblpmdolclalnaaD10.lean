/- The walks through sync.WaitGroup's Wait, for goroutine 0 of a net, in any rely and guarantee of some kind. Made by gen_wgm.py. From the walks of the group's functions to the stops of a net. The steps of a receive, a send, a close as a goroutine's own. -/
import Derived.Test.YtblpmdolclalnaaD03
import Derived.Test.YtblpmdolclalnaaD08
import Derived.Test.YtblpmdolclalnaaD09
import Derived.Conc.TokenWalk
namespace Go.Proofs.Ytblpmdolclalnaa
open Go.Conc Go.RowKit Go.Conc.Lib Go.ConcR.Gen Go.ConcN.Gen
open Go.ConcR (WgAt KK stA smA rd wr mk DC0)
open Go.ConcN (WgLive st_flag st_waiters)
variable {L : WgLink}


set_option maxRecDepth 100000 in
set_option maxHeartbeats 16000000 in
theorem wg_round {P : Program} (H : WgLib P L) {Wg : Nat} {R : World → World → Prop} {D : World → World → Array Event → Prop} {F : World → Prop} (hX : Fits L.tWg Wg R D F) {b₀ : Frame} {a₀ : Act} {ops₀ : Array Oper} {i₀ : Nat} {rest₀ : List Nat} {k₀ : List Item} {cs : List Frame} (g : Goroutine) (w : World) (h : WAnch L Wg F (b₀.at a₀ (.inRegion ops₀ (i₀ :: rest₀) :: k₀) :: cs) g w) :
    Goes P true R D (W1 P L.tWg Wg R D F (G (b₀.at (a₀.put ((ops₀[i₀]?).bind (·.dst)) (.tuple #[])) (.inRegion ops₀ rest₀ :: k₀)) cs) (WAnch L Wg F (b₀.at a₀ (.inRegion ops₀ (i₀ :: rest₀) :: k₀) :: cs))) 30 g w := by
  obtain ⟨T, rfl, hT84, t0, hF⟩ := h
  obtain ⟨v0, v1, v2, v3, v4, v5, v6, v7, v8, v9, v10, v11, v12, v13, v14, v15, v16, v17, v18, v19, v20, v21, v22, v23, v24, v25, v26, v27, v28, v29, v30, v31, v32, v33, v34, v35, v36, v37, v38, v39, v40, v41, v42, v43, v44, v45, v46, v47, v48, v49, v50, v51, v52, v53, v54, v55, v56, v57, v58, v59, v60, v61, v62, v63, v64, v65, v66, v67, v68, v69, v70, v71, v72, v73, v74, v75, v76, v77, v78, v79, v80, v81, v82, v83, rfl⟩ := array84 T hT84
  simp only [List.getElem?_toArray, List.getElem?_cons_zero, Option.some.injEq] at t0
  subst t0
  lib_facts
  have hD := hX.idle
  have hL : ∀ {w w₁ : World}, (F w ∧ WgLive L.tWg Wg w) → R w w₁ → (F w₁ ∧ WgLive L.tWg Wg w₁) := fun h r => ⟨hX.kept _ _ r h.1, hX.live _ _ r h.2⟩
  simp only [L7, body_wait, waitFn, Option.getD_some]
  repeat (first | (first | ((with_reducible refine g_opG ?_); (first | (refine g_unw hD rfl rfl (fun _ h₁ => ?_); replace hF := hL hF h₁; clear h₁; walk_nrm) | (refine Goes.step rfl (fun _ h₁ => ?_); replace hF := hL hF h₁; clear h₁; refine goes_oper_k rfl rfl (by k_ne) (fun K hK => ?_); go_simp; refine hK _ _ ⟨?_, ?_⟩; (focus (refine g_idle hD ?_; intro e he; have hm := mem_listed he; simp [go_sem, *] at hm; done)); clear hK K; try w_num) | ((with_reducible refine g_opG ?_); refine Goes.step rfl (fun _ h₁ => ?_); replace hF := hL hF h₁; clear h₁; refine goes_call rfl rfl (by k_ne) rfl H.f_uLoad (nm_uLoad L) rfl ⟨by exact (g_idle hD (fun e he => by simp at he)), ?_⟩; walk_nrmf uLoadFn))) | ((first | (with_reducible first | refine g_k true true hD rfl ?_ | refine g_ret hD ?_ | refine g_end hD ?_) | ((with_reducible refine g_ct hD ?_ ?_); (focus exact rfl)) | ((with_reducible refine g_cf hD ?_ ?_); (focus exact rfl))); intro _ h₁; replace hF := hL hF h₁; clear h₁) | ((with_reducible refine g_reg hD (fun _ h₁ => ?_)); replace hF := hL hF h₁; clear h₁; simp only [regN]) | ((with_reducible refine g_exit hD (k' := ?_) ?_ (fun _ h₁ => ?_)); rotate_left; (focus exact rfl); replace hF := hL hF h₁; clear h₁)))
  refine Goes.stop (fun w₁ h₁ => ?_)
  replace hF := hL hF h₁
  clear h₁
  refine ⟨rfl, fun v hv hw => ?_⟩
  rcases Nat.eq_zero_or_pos v with rfl | hvp
  · replace hw : WgAt L.tWg Wg w₁ 0 0 := by simpa using hw
    refine ⟨_, stepG_load_atomic (v := 0) rfl rfl (by k_ne) rfl H.f_loadU64 (x_loadU64_n L) (x_loadU64_b L) (x_loadU64_x L) .u64 (x_loadU64_f L) rfl hw.cellSt, fun _ => ?_, fun h => absurd rfl h⟩
    clear hw
    walk_nrm
    repeat (first | (first | ((with_reducible refine g_opG ?_); (first | (refine g_unw hD rfl rfl (fun _ h₁ => ?_); replace hF := hL hF h₁; clear h₁; walk_nrm) | (refine Goes.step rfl (fun _ h₁ => ?_); replace hF := hL hF h₁; clear h₁; refine goes_oper_k rfl rfl (by k_ne) (fun K hK => ?_); go_simp; refine hK _ _ ⟨?_, ?_⟩; (focus (refine g_idle hD ?_; intro e he; have hm := mem_listed he; simp [go_sem, *] at hm; done)); clear hK K; try w_num))) | ((first | (with_reducible first | refine g_k true true hD rfl ?_ | refine g_ret hD ?_ | refine g_end hD ?_) | ((with_reducible refine g_ct hD ?_ ?_); (focus exact rfl)) | ((with_reducible refine g_cf hD ?_ ?_); (focus exact rfl))); intro _ h₁; replace hF := hL hF h₁; clear h₁) | ((with_reducible refine g_reg hD (fun _ h₁ => ?_)); replace hF := hL hF h₁; clear h₁; simp only [regN]) | ((with_reducible refine g_exit hD (k' := ?_) ?_ (fun _ h₁ => ?_)); rotate_left; (focus exact rfl); replace hF := hL hF h₁; clear h₁) | ((with_reducible refine g_lvG ?_); refine Goes.step rfl (fun _ h₁ => ?_); replace hF := hL hF h₁; clear h₁; refine goes_leave1 rfl rfl H.f_uLoad rfl ⟨by exact (g_idle hD (fun e he => by simp at he)), ?_⟩; walk_nrm)))
    refine Goes.stop (fun w₅ h₅ => ?_)
    replace hF := hL hF h₅
    clear h₅
    refine ⟨rfl, _, stepG_mark0 .enable (by simp) rfl rfl (by k_ne) rfl H.f_enable (x_enable_n L) (x_enable_b L) (x_enable_x L) (x_enable_f L), ?_⟩
    walk_nrm
    repeat ((first | ((with_reducible refine g_opG ?_); (first | (refine g_unw hD rfl rfl (fun _ h₁ => ?_); replace hF := hL hF h₁; clear h₁; walk_nrm) | (refine Goes.step rfl (fun _ h₁ => ?_); replace hF := hL hF h₁; clear h₁; refine goes_oper_k rfl rfl (by k_ne) (fun K hK => ?_); go_simp; refine hK _ _ ⟨?_, ?_⟩; (focus (refine g_idle hD ?_; intro e he; have hm := mem_listed he; simp [go_sem, *] at hm; done)); clear hK K; try w_num))) | ((first | (with_reducible first | refine g_k true true hD rfl ?_ | refine g_ret hD ?_ | refine g_end hD ?_) | ((with_reducible refine g_ct hD ?_ ?_); (focus exact rfl)) | ((with_reducible refine g_cf hD ?_ ?_); (focus exact rfl))); intro _ h₁; replace hF := hL hF h₁; clear h₁) | ((with_reducible refine g_reg hD (fun _ h₁ => ?_)); replace hF := hL hF h₁; clear h₁; simp only [regN]) | ((with_reducible refine g_exit hD (k' := ?_) ?_ (fun _ h₁ => ?_)); rotate_left; (focus exact rfl); replace hF := hL hF h₁; clear h₁)))
    ((with_reducible refine g_opG ?_); refine Goes.step rfl (fun _ h₁ => ?_); replace hF := hL hF h₁; clear h₁; refine goes_oper_k rfl rfl (by k_ne) (fun Kx hKx => ?_); have hcv := run_convert_to_unsafe (P := P) H.underlying_tWgP H.underlying_tUP H.room_tWg (WgLive.cell0 hF.2).choose_spec; have hce := fun es => events_convert_to_unsafe (P := P) H.underlying_tWgP H.underlying_tUP H.room_tWg (WgLive.cell0 hF.2).choose_spec es; go_simp; refine hKx _ _ ⟨?_, ?_⟩; (focus (refine g_idle hD ?_; intro ex hex; have hmx := mem_listed hex; simp [go_sem, hce] at hmx; done)); clear hKx Kx hcv hce)
    refine Goes.stop (fun w₆ h₆ => ?_)
    replace hF := hL hF h₆
    clear h₆
    refine ⟨rfl, hF.1, _, stepG_markAt .acquire (by simp) rfl rfl (by k_ne) rfl H.f_acquire (x_acquire_n L) (x_acquire_b L) (x_acquire_x L) (x_acquire_f L) (by simp [Act.eval, stA]), fun Shun => ?_⟩
    replace hF := atRel_refl w₆
    have hT0 : ∀ {w w₁ : World}, AtRel w₆ w → AtRel w w₁ → AtRel w₆ w₁ := fun h r => atRel_trans _ _ _ h r
    have hD : ∀ w : World, SD Shun w w #[] := fun w => ⟨Nat.le_refl _, fun e he => by simp at he⟩
    walk_nrm
    repeat ((first | ((with_reducible refine g_opG ?_); (first | (refine g_unw hD rfl rfl (fun _ h₁ => ?_); replace hF := hT0 hF h₁; clear h₁; walk_nrm) | (refine Goes.step rfl (fun _ h₁ => ?_); replace hF := hT0 hF h₁; clear h₁; refine goes_oper_k rfl rfl (by k_ne) (fun K hK => ?_); go_simp; refine hK _ _ ⟨?_, ?_⟩; (focus (refine g_idle hD ?_; intro e he; have hm := mem_listed he; simp [go_sem, *] at hm; done)); clear hK K; try w_num))) | ((first | (with_reducible first | refine g_k true true hD rfl ?_ | refine g_ret hD ?_ | refine g_end hD ?_) | ((with_reducible refine g_ct hD ?_ ?_); (focus exact rfl)) | ((with_reducible refine g_cf hD ?_ ?_); (focus exact rfl))); intro _ h₁; replace hF := hT0 hF h₁; clear h₁) | ((with_reducible refine g_reg hD (fun _ h₁ => ?_)); replace hF := hT0 hF h₁; clear h₁; simp only [regN]) | ((with_reducible refine g_exit hD (k' := ?_) ?_ (fun _ h₁ => ?_)); rotate_left; (focus exact rfl); replace hF := hT0 hF h₁; clear h₁)))
    (refine Goes.step rfl (fun _ h₁ => ?_); replace hF := hT0 hF h₁; clear h₁; refine goes_leave0 rfl rfl H.f_wait rfl ⟨by exact (g_idle hD (fun e he => by simp at he)), ?_⟩; walk_nrm)
    exact Goes.stop fun _ h => ⟨rfl, hT0 hF h⟩
  · obtain ⟨S, hS⟩ : ∃ S : Int, (v : Int) * KK = S := ⟨_, rfl⟩
    have a1 : S / 4294967296 = (v : Int) := by rw [← hS]; simp only [KK]; omega
    have b1 : bits .and .u64 S 2147483648 = 0 := by rw [← hS]; have := st_flag v 0 (by omega) (by omega); simpa [KK] using this
    have b2 : bits .and .u64 S 2147483647 = 0 := by rw [← hS]; have := st_waiters v 0 (by omega) (by omega); simpa [KK] using this
    have c1 : IntKind.i32.wrap (v : Int) = (v : Int) := by rw [IntKind.wrap_i32]; omega
    have w1 : IntKind.u64.wrap (S + 1) = S + 1 := by rw [IntKind.wrap_u64, ← hS]; simp only [KK]; omega
    have q3 : decide ((v : Int) < 0) = false := decide_eq_false (by omega)
    have q4 : decide (0 < (v : Int)) = true := decide_eq_true (by omega)
    have q5 : ((v : Int) == 0) = false := by simp; omega
    have q6 : decide ((v : Int) = 0) = false := decide_eq_false (by omega)
    rw [hS] at hw
    refine ⟨_, stepG_load_atomic (v := S) rfl rfl (by k_ne) rfl H.f_loadU64 (x_loadU64_n L) (x_loadU64_b L) (x_loadU64_x L) .u64 (x_loadU64_f L) rfl hw.cellSt, fun h0 => absurd h0 (by omega), fun _ => ?_⟩
    clear hw
    walk_nrm
    repeat (first | (first | ((with_reducible refine g_opG ?_); (first | (refine g_unw hD rfl rfl (fun _ h₁ => ?_); replace hF := hL hF h₁; clear h₁; walk_nrm) | (refine Goes.step rfl (fun _ h₁ => ?_); replace hF := hL hF h₁; clear h₁; refine goes_oper_k rfl rfl (by k_ne) (fun K hK => ?_); go_simp; refine hK _ _ ⟨?_, ?_⟩; (focus (refine g_idle hD ?_; intro e he; have hm := mem_listed he; simp [go_sem, *] at hm; done)); clear hK K; try w_num) | ((with_reducible refine g_opG ?_); refine Goes.step rfl (fun _ h₁ => ?_); replace hF := hL hF h₁; clear h₁; refine goes_call rfl rfl (by k_ne) rfl H.f_uCas (nm_uCas L) rfl ⟨by exact (g_idle hD (fun e he => by simp at he)), ?_⟩; walk_nrmf uCasFn))) | ((first | (with_reducible first | refine g_k true true hD rfl ?_ | refine g_ret hD ?_ | refine g_end hD ?_) | ((with_reducible refine g_ct hD ?_ ?_); (focus exact rfl)) | ((with_reducible refine g_cf hD ?_ ?_); (focus exact rfl))); intro _ h₁; replace hF := hL hF h₁; clear h₁) | ((with_reducible refine g_reg hD (fun _ h₁ => ?_)); replace hF := hL hF h₁; clear h₁; simp only [regN]) | ((with_reducible refine g_exit hD (k' := ?_) ?_ (fun _ h₁ => ?_)); rotate_left; (focus exact rfl); replace hF := hL hF h₁; clear h₁) | ((with_reducible refine g_ct hD ?_ (fun _ h₁ => ?_)); (focus (first | exact rfl | (simp [Act.eval]; omega))); replace hF := hL hF h₁; clear h₁) | ((with_reducible refine g_cf hD ?_ (fun _ h₁ => ?_)); (focus (first | exact rfl | (simp [Act.eval]; omega))); replace hF := hL hF h₁; clear h₁) | ((with_reducible refine g_lvG ?_); refine Goes.step rfl (fun _ h₁ => ?_); replace hF := hL hF h₁; clear h₁; refine goes_leave1 rfl rfl H.f_uLoad rfl ⟨by exact (g_idle hD (fun e he => by simp at he)), ?_⟩; walk_nrm)))
    refine Goes.stop (fun w₂ h₂ => ?_)
    replace hF := hL hF h₂
    clear h₂
    refine ⟨rfl, fun v' hv' hw => ⟨fun e => ?_, fun e => ?_⟩⟩
    · subst e
      rw [hS] at hw ⊢
      refine ⟨_, (stepG_cas_hit (v := S) (n := S + 1) rfl rfl (by k_ne) rfl H.f_casU64 (x_casU64_n L) (x_casU64_b L) (x_casU64_x L) .u64 (x_casU64_f L) rfl rfl rfl hw.cellSt (hw.thaw 0)).trans (by rfl), ?_⟩
      have hl' : WgLive L.tWg Wg (w₂.setCell (stA Wg) (.int .u64 (S + 1))) := ⟨_, _, hw.setSt _⟩
      replace hF : F (w₂.setCell (stA Wg) (.int .u64 (S + 1))) ∧ WgLive L.tWg Wg (w₂.setCell (stA Wg) (.int .u64 (S + 1))) := ⟨hX.set _ 0 _ (by omega) hF.1 hl' hF.2, hl'⟩
      clear hw hl'
      walk_nrm
      repeat (first | (first | ((with_reducible refine g_opG ?_); (first | (refine g_unw hD rfl rfl (fun _ h₁ => ?_); replace hF := hL hF h₁; clear h₁; walk_nrm) | (refine Goes.step rfl (fun _ h₁ => ?_); replace hF := hL hF h₁; clear h₁; refine goes_oper_k rfl rfl (by k_ne) (fun K hK => ?_); go_simp; refine hK _ _ ⟨?_, ?_⟩; (focus (refine g_idle hD ?_; intro e he; have hm := mem_listed he; simp [go_sem, *] at hm; done)); clear hK K; try w_num))) | ((first | (with_reducible first | refine g_k true true hD rfl ?_ | refine g_ret hD ?_ | refine g_end hD ?_) | ((with_reducible refine g_ct hD ?_ ?_); (focus exact rfl)) | ((with_reducible refine g_cf hD ?_ ?_); (focus exact rfl))); intro _ h₁; replace hF := hL hF h₁; clear h₁) | ((with_reducible refine g_reg hD (fun _ h₁ => ?_)); replace hF := hL hF h₁; clear h₁; simp only [regN]) | ((with_reducible refine g_exit hD (k' := ?_) ?_ (fun _ h₁ => ?_)); rotate_left; (focus exact rfl); replace hF := hL hF h₁; clear h₁) | ((with_reducible refine g_lvG ?_); refine Goes.step rfl (fun _ h₁ => ?_); replace hF := hL hF h₁; clear h₁; refine goes_leave1 rfl rfl H.f_uCas rfl ⟨by exact (g_idle hD (fun e he => by simp at he)), ?_⟩; walk_nrm)))
      ((with_reducible refine g_opG ?_); refine Goes.step rfl (fun _ h₁ => ?_); replace hF := hL hF h₁; clear h₁; refine goes_oper_k rfl rfl (by k_ne) (fun Kx hKx => ?_); have hcv := run_convert_to_unsafe (P := P) H.underlying_tPU32 H.underlying_tUP H.room_tU32 (WgLive.cell1 hF.2).choose_spec; have hce := fun es => events_convert_to_unsafe (P := P) H.underlying_tPU32 H.underlying_tUP H.room_tU32 (WgLive.cell1 hF.2).choose_spec es; go_simp; refine hKx _ _ ⟨?_, ?_⟩; (focus (refine g_idle hD ?_; intro ex hex; have hmx := mem_listed hex; simp [go_sem, hce] at hmx; done)); clear hKx Kx hcv hce)
      (refine Goes.step rfl (fun _ h₁ => ?_); replace hF := hL hF h₁; clear h₁)
      rw [stepG_markAt .write (by simp) rfl rfl (by k_ne) rfl H.f_raceWrite (x_raceWrite_n L) (x_raceWrite_b L) (x_raceWrite_x L) (x_raceWrite_f L) (ad := ⟨Wg, 1, none⟩) (by simp [Act.eval])]
      simp only [goes_go]
      refine ⟨hX.said _ 1 _ (.inr rfl), ?_⟩
      walk_nrm
      repeat (first | (first | ((with_reducible refine g_opG ?_); (first | (refine g_unw hD rfl rfl (fun _ h₁ => ?_); replace hF := hL hF h₁; clear h₁; walk_nrm) | (refine Goes.step rfl (fun _ h₁ => ?_); replace hF := hL hF h₁; clear h₁; refine goes_oper_k rfl rfl (by k_ne) (fun K hK => ?_); go_simp; refine hK _ _ ⟨?_, ?_⟩; (focus (refine g_idle hD ?_; intro e he; have hm := mem_listed he; simp [go_sem, *] at hm; done)); clear hK K; try w_num))) | ((first | (with_reducible first | refine g_k true true hD rfl ?_ | refine g_ret hD ?_ | refine g_end hD ?_) | ((with_reducible refine g_ct hD ?_ ?_); (focus exact rfl)) | ((with_reducible refine g_cf hD ?_ ?_); (focus exact rfl))); intro _ h₁; replace hF := hL hF h₁; clear h₁) | ((with_reducible refine g_reg hD (fun _ h₁ => ?_)); replace hF := hL hF h₁; clear h₁; simp only [regN]) | ((with_reducible refine g_exit hD (k' := ?_) ?_ (fun _ h₁ => ?_)); rotate_left; (focus exact rfl); replace hF := hL hF h₁; clear h₁)))
      refine Goes.stop (fun w₃ h₃ => ?_)
      replace hF := hL hF h₃
      clear h₃
      refine ⟨rfl, rfl, fun ⟨st, hw⟩ => stepG_semacquire_wait rfl rfl rfl H.f_semacquire (x_semacquire_n L) (x_semacquire_b L) (x_semacquire_x L) (x_semacquire_f L) (by simp [Act.eval, smA]) hw.cellSm, fun hf => ?_⟩
      refine ⟨_, (stepG_semacquire (n := 1) rfl rfl (by k_ne) rfl H.f_semacquire (x_semacquire_n L) (x_semacquire_b L) (x_semacquire_x L) (x_semacquire_f L) (by simp [Act.eval, smA]) hf.cellSm (by k_ne) (hf.thaw 1)).trans (by rfl), ?_⟩
      have hl' : WgLive L.tWg Wg (w₃.setCell (smA Wg) (.int .u32 0)) := ⟨_, _, hf.setSm 0⟩
      replace hF : F (w₃.setCell (smA Wg) (.int .u32 0)) ∧ WgLive L.tWg Wg (w₃.setCell (smA Wg) (.int .u32 0)) := ⟨hX.set _ 1 _ (by omega) hF.1 hl' hF.2, hl'⟩
      clear hf hl'
      walk_nrm
      repeat (first | (first | ((with_reducible refine g_opG ?_); (first | (refine g_unw hD rfl rfl (fun _ h₁ => ?_); replace hF := hL hF h₁; clear h₁; walk_nrm) | (refine Goes.step rfl (fun _ h₁ => ?_); replace hF := hL hF h₁; clear h₁; refine goes_oper_k rfl rfl (by k_ne) (fun K hK => ?_); go_simp; refine hK _ _ ⟨?_, ?_⟩; (focus (refine g_idle hD ?_; intro e he; have hm := mem_listed he; simp [go_sem, *] at hm; done)); clear hK K; try w_num) | ((with_reducible refine g_opG ?_); refine Goes.step rfl (fun _ h₁ => ?_); replace hF := hL hF h₁; clear h₁; refine goes_call rfl rfl (by k_ne) rfl H.f_uLoad (nm_uLoad L) rfl ⟨by exact (g_idle hD (fun e he => by simp at he)), ?_⟩; walk_nrmf uLoadFn))) | ((first | (with_reducible first | refine g_k true true hD rfl ?_ | refine g_ret hD ?_ | refine g_end hD ?_) | ((with_reducible refine g_ct hD ?_ ?_); (focus exact rfl)) | ((with_reducible refine g_cf hD ?_ ?_); (focus exact rfl))); intro _ h₁; replace hF := hL hF h₁; clear h₁) | ((with_reducible refine g_reg hD (fun _ h₁ => ?_)); replace hF := hL hF h₁; clear h₁; simp only [regN]) | ((with_reducible refine g_exit hD (k' := ?_) ?_ (fun _ h₁ => ?_)); rotate_left; (focus exact rfl); replace hF := hL hF h₁; clear h₁)))
      refine Goes.stop (fun w₄ h₄ => ?_)
      replace hF := hL hF h₄
      clear h₄
      refine ⟨rfl, fun hw => ⟨_, stepG_load_atomic (v := 0) rfl rfl (by k_ne) rfl H.f_loadU64 (x_loadU64_n L) (x_loadU64_b L) (x_loadU64_x L) .u64 (x_loadU64_f L) rfl hw.cellSt, ?_⟩⟩
      clear hw
      walk_nrm
      repeat (first | (first | ((with_reducible refine g_opG ?_); (first | (refine g_unw hD rfl rfl (fun _ h₁ => ?_); replace hF := hL hF h₁; clear h₁; walk_nrm) | (refine Goes.step rfl (fun _ h₁ => ?_); replace hF := hL hF h₁; clear h₁; refine goes_oper_k rfl rfl (by k_ne) (fun K hK => ?_); go_simp; refine hK _ _ ⟨?_, ?_⟩; (focus (refine g_idle hD ?_; intro e he; have hm := mem_listed he; simp [go_sem, *] at hm; done)); clear hK K; try w_num))) | ((first | (with_reducible first | refine g_k true true hD rfl ?_ | refine g_ret hD ?_ | refine g_end hD ?_) | ((with_reducible refine g_ct hD ?_ ?_); (focus exact rfl)) | ((with_reducible refine g_cf hD ?_ ?_); (focus exact rfl))); intro _ h₁; replace hF := hL hF h₁; clear h₁) | ((with_reducible refine g_reg hD (fun _ h₁ => ?_)); replace hF := hL hF h₁; clear h₁; simp only [regN]) | ((with_reducible refine g_exit hD (k' := ?_) ?_ (fun _ h₁ => ?_)); rotate_left; (focus exact rfl); replace hF := hL hF h₁; clear h₁) | ((with_reducible refine g_lvG ?_); refine Goes.step rfl (fun _ h₁ => ?_); replace hF := hL hF h₁; clear h₁; refine goes_leave1 rfl rfl H.f_uLoad rfl ⟨by exact (g_idle hD (fun e he => by simp at he)), ?_⟩; walk_nrm)))
      refine Goes.stop (fun w₅ h₅ => ?_)
      replace hF := hL hF h₅
      clear h₅
      refine ⟨rfl, _, stepG_mark0 .enable (by simp) rfl rfl (by k_ne) rfl H.f_enable (x_enable_n L) (x_enable_b L) (x_enable_x L) (x_enable_f L), ?_⟩
      walk_nrm
      repeat ((first | ((with_reducible refine g_opG ?_); (first | (refine g_unw hD rfl rfl (fun _ h₁ => ?_); replace hF := hL hF h₁; clear h₁; walk_nrm) | (refine Goes.step rfl (fun _ h₁ => ?_); replace hF := hL hF h₁; clear h₁; refine goes_oper_k rfl rfl (by k_ne) (fun K hK => ?_); go_simp; refine hK _ _ ⟨?_, ?_⟩; (focus (refine g_idle hD ?_; intro e he; have hm := mem_listed he; simp [go_sem, *] at hm; done)); clear hK K; try w_num))) | ((first | (with_reducible first | refine g_k true true hD rfl ?_ | refine g_ret hD ?_ | refine g_end hD ?_) | ((with_reducible refine g_ct hD ?_ ?_); (focus exact rfl)) | ((with_reducible refine g_cf hD ?_ ?_); (focus exact rfl))); intro _ h₁; replace hF := hL hF h₁; clear h₁) | ((with_reducible refine g_reg hD (fun _ h₁ => ?_)); replace hF := hL hF h₁; clear h₁; simp only [regN]) | ((with_reducible refine g_exit hD (k' := ?_) ?_ (fun _ h₁ => ?_)); rotate_left; (focus exact rfl); replace hF := hL hF h₁; clear h₁)))
      ((with_reducible refine g_opG ?_); refine Goes.step rfl (fun _ h₁ => ?_); replace hF := hL hF h₁; clear h₁; refine goes_oper_k rfl rfl (by k_ne) (fun Kx hKx => ?_); have hcv := run_convert_to_unsafe (P := P) H.underlying_tWgP H.underlying_tUP H.room_tWg (WgLive.cell0 hF.2).choose_spec; have hce := fun es => events_convert_to_unsafe (P := P) H.underlying_tWgP H.underlying_tUP H.room_tWg (WgLive.cell0 hF.2).choose_spec es; go_simp; refine hKx _ _ ⟨?_, ?_⟩; (focus (refine g_idle hD ?_; intro ex hex; have hmx := mem_listed hex; simp [go_sem, hce] at hmx; done)); clear hKx Kx hcv hce)
      refine Goes.stop (fun w₆ h₆ => ?_)
      replace hF := hL hF h₆
      clear h₆
      refine ⟨rfl, hF.1, _, stepG_markAt .acquire (by simp) rfl rfl (by k_ne) rfl H.f_acquire (x_acquire_n L) (x_acquire_b L) (x_acquire_x L) (x_acquire_f L) (by simp [Act.eval, stA]), fun Shun => ?_⟩
      replace hF := atRel_refl w₆
      have hT0 : ∀ {w w₁ : World}, AtRel w₆ w → AtRel w w₁ → AtRel w₆ w₁ := fun h r => atRel_trans _ _ _ h r
      have hD : ∀ w : World, SD Shun w w #[] := fun w => ⟨Nat.le_refl _, fun e he => by simp at he⟩
      walk_nrm
      repeat ((first | ((with_reducible refine g_opG ?_); (first | (refine g_unw hD rfl rfl (fun _ h₁ => ?_); replace hF := hT0 hF h₁; clear h₁; walk_nrm) | (refine Goes.step rfl (fun _ h₁ => ?_); replace hF := hT0 hF h₁; clear h₁; refine goes_oper_k rfl rfl (by k_ne) (fun K hK => ?_); go_simp; refine hK _ _ ⟨?_, ?_⟩; (focus (refine g_idle hD ?_; intro e he; have hm := mem_listed he; simp [go_sem, *] at hm; done)); clear hK K; try w_num))) | ((first | (with_reducible first | refine g_k true true hD rfl ?_ | refine g_ret hD ?_ | refine g_end hD ?_) | ((with_reducible refine g_ct hD ?_ ?_); (focus exact rfl)) | ((with_reducible refine g_cf hD ?_ ?_); (focus exact rfl))); intro _ h₁; replace hF := hT0 hF h₁; clear h₁) | ((with_reducible refine g_reg hD (fun _ h₁ => ?_)); replace hF := hT0 hF h₁; clear h₁; simp only [regN]) | ((with_reducible refine g_exit hD (k' := ?_) ?_ (fun _ h₁ => ?_)); rotate_left; (focus exact rfl); replace hF := hT0 hF h₁; clear h₁)))
      (refine Goes.step rfl (fun _ h₁ => ?_); replace hF := hT0 hF h₁; clear h₁; refine goes_leave0 rfl rfl H.f_wait rfl ⟨by exact (g_idle hD (fun e he => by simp at he)), ?_⟩; walk_nrm)
      exact Goes.stop fun _ h => ⟨rfl, hT0 hF h⟩
    · refine ⟨_, stepG_cas_miss (v := (v' : Int) * KK) (old := S) (n := S + 1) rfl rfl (by k_ne) rfl H.f_casU64 (x_casU64_n L) (x_casU64_b L) (x_casU64_x L) .u64 (x_casU64_f L) rfl rfl rfl hw.cellSt (hw.thaw 0) (by rw [← hS]; simp only [KK]; omega), ?_⟩
      clear hw
      walk_nrm
      (refine Goes.step rfl (fun _ h₁ => ?_); replace hF := hL hF h₁; clear h₁; refine goes_oper_k rfl rfl (by k_ne) (fun K hK => ?_); go_simp; refine hK _ _ ⟨?_, ?_⟩; (focus (refine g_idle hD ?_; intro e he; have hm := mem_listed he; simp [go_sem, *] at hm; done)); clear hK K; try w_num)
      repeat (first | (first | ((with_reducible refine g_opG ?_); (first | (refine g_unw hD rfl rfl (fun _ h₁ => ?_); replace hF := hL hF h₁; clear h₁; walk_nrm) | (refine Goes.step rfl (fun _ h₁ => ?_); replace hF := hL hF h₁; clear h₁; refine goes_oper_k rfl rfl (by k_ne) (fun K hK => ?_); go_simp; refine hK _ _ ⟨?_, ?_⟩; (focus (refine g_idle hD ?_; intro e he; have hm := mem_listed he; simp [go_sem, *] at hm; done)); clear hK K; try w_num))) | ((first | (with_reducible first | refine g_k false true hD rfl ?_ | refine g_ret hD ?_ | refine g_end hD ?_) | ((with_reducible refine g_ct hD ?_ ?_); (focus exact rfl)) | ((with_reducible refine g_cf hD ?_ ?_); (focus exact rfl))); intro _ h₁; replace hF := hL hF h₁; clear h₁) | ((with_reducible refine g_reg hD (fun _ h₁ => ?_)); replace hF := hL hF h₁; clear h₁; simp only [regN]) | ((with_reducible refine g_exit hD (k' := ?_) ?_ (fun _ h₁ => ?_)); rotate_left; (focus exact rfl); replace hF := hL hF h₁; clear h₁) | ((with_reducible refine g_lvG ?_); refine Goes.step rfl (fun _ h₁ => ?_); replace hF := hL hF h₁; clear h₁; refine goes_leave1 rfl rfl H.f_uCas rfl ⟨by exact (g_idle hD (fun e he => by simp at he)), ?_⟩; walk_nrm)))
      (refine Goes.step rfl (fun _ h₁ => ?_); replace hF := hL hF h₁; clear h₁; rw [stepG_inLoop]; simp only [goes_go]; refine ⟨by exact (g_idle hD (fun e he => by simp at he)), ?_⟩)
      exact Goes.stop (fun w₃ h₃ => ⟨_, rfl, by simp, by simp, hL hF h₃⟩)

set_option maxRecDepth 100000 in
set_option maxHeartbeats 16000000 in
theorem wg_wait {P : Program} (H : WgLib P L) {Wg : Nat} {R : World → World → Prop} {D : World → World → Array Event → Prop} {F : World → Prop} (hX : Fits L.tWg Wg R D F) {b₀ : Frame} {a₀ : Act} {ops₀ : Array Oper} {i₀ : Nat} {rest₀ : List Nat} {k₀ : List Item} {cs : List Frame} (w : World) (hF : F w ∧ WgLive L.tWg Wg w) :
    Goes P true R D (WKd P L Wg R D F (b₀.at a₀ (.inRegion ops₀ (i₀ :: rest₀) :: k₀) :: cs)) 3 (G ((base L.wait).at ⟨#[.pointer (some ⟨Wg, 0, none⟩), undef, undef, undef, undef, undef, undef, undef, undef, undef, undef, undef, undef, undef, undef, undef, undef, undef, undef, undef, undef, undef, undef, undef, undef, undef, undef, undef, undef, undef, undef, undef, undef, undef, undef, undef, undef, undef, undef, undef, undef, undef, undef, undef, undef, undef, undef, undef, undef, undef, undef, undef, undef, undef, undef, undef, undef, undef, undef, undef, undef, undef, undef, undef, undef, undef, undef, undef, undef, undef, undef, undef, undef, undef, undef, undef, undef, undef, undef, undef, undef, undef, undef, undef], []⟩ [.code (body_wait L)]) (b₀.at a₀ (.inRegion ops₀ (i₀ :: rest₀) :: k₀) :: cs)) w := by
  lib_facts
  have hD := hX.idle
  have hL : ∀ {w w₁ : World}, (F w ∧ WgLive L.tWg Wg w) → R w w₁ → (F w₁ ∧ WgLive L.tWg Wg w₁) := fun h r => ⟨hX.kept _ _ r h.1, hX.live _ _ r h.2⟩
  simp only [body_wait, waitFn, Option.getD_some]
  repeat ((first | ((with_reducible refine g_opG ?_); (first | (refine g_unw hD rfl rfl (fun _ h₁ => ?_); replace hF := hL hF h₁; clear h₁; walk_nrm) | (refine Goes.step rfl (fun _ h₁ => ?_); replace hF := hL hF h₁; clear h₁; refine goes_oper_k rfl rfl (by k_ne) (fun K hK => ?_); go_simp; refine hK _ _ ⟨?_, ?_⟩; (focus (refine g_idle hD ?_; intro e he; have hm := mem_listed he; simp [go_sem, *] at hm; done)); clear hK K; try w_num))) | ((first | (with_reducible first | refine g_k true true hD rfl ?_ | refine g_ret hD ?_ | refine g_end hD ?_) | ((with_reducible refine g_ct hD ?_ ?_); (focus exact rfl)) | ((with_reducible refine g_cf hD ?_ ?_); (focus exact rfl))); intro _ h₁; replace hF := hL hF h₁; clear h₁) | ((with_reducible refine g_reg hD (fun _ h₁ => ?_)); replace hF := hL hF h₁; clear h₁; simp only [regN]) | ((with_reducible refine g_exit hD (k' := ?_) ?_ (fun _ h₁ => ?_)); rotate_left; (focus exact rfl); replace hF := hL hF h₁; clear h₁)))
  refine Goes.stop (fun w₁ h₁ => ?_)
  replace hF := hL hF h₁
  clear h₁
  refine ⟨rfl, ⟨_, rfl⟩, _, stepG_mark0 .disable (by simp) rfl rfl (by k_ne) rfl H.f_disable (x_disable_n L) (x_disable_b L) (x_disable_x L) (x_disable_f L), ?_⟩
  walk_nrm
  (refine Goes.step rfl (fun _ h₁ => ?_); replace hF := hL hF h₁; clear h₁; rw [stepG_region_end]; simp only [goes_go]; refine ⟨by exact (g_idle hD (fun e he => by simp at he)), ?_⟩)
  (refine Goes.step rfl (fun _ h₁ => ?_); replace hF := hL hF h₁; clear h₁; rw [stepG_block]; simp only [goes_go]; refine ⟨by exact (g_idle hD (fun e he => by simp at he)), ?_⟩)
  (refine Goes.step rfl (fun _ h₁ => ?_); replace hF := hL hF h₁; clear h₁; rw [stepG_loop]; simp only [goes_go]; refine ⟨by exact (g_idle hD (fun e he => by simp at he)), ?_⟩)
  exact Goes.stop (fun w₂ h₂ => ⟨_, rfl, by simp, by simp, hL hF h₂⟩)

end Go.Proofs.Ytblpmdolclalnaa

namespace Go.Proofs.Ytblpmdolclalnaa
open Go.Conc Go.Conc.Lib
open Go.ConcR (WgAt KK stA smA rd wr mk DC0)
open Go.ConcN (WgLive)
section
variable {P : Program} {ty : TypeId} {Wg : Nat} {N : Net} {own : Nat → Prop} {m : N.M} {Given : Cells} {Fz : Nat → Prop}

/-- Goroutine 0's rely and guarantee fit the group's walks; what is known: that the world is w₀'s, turned by others. -/
theorem fits_main (hG : ∀ x, Given Wg x) {F : World → Prop} (hF : ∀ w w₁, MR ty Wg own Given w w₁ → F w → F w₁) : Fits ty Wg (MR ty Wg own Given) (MD Wg own Given Fz) F where
  live _ _ r := r.live
  kept := hF
  set w o x _ h hl _ := hF _ _ (rel_wg rfl (fun y hk => hk.2 (hG y)) hl) h
  idle w := Gua.idle w
  said w o e he := ⟨Nat.le_refl _, fun _ _ _ => rfl, fun _ _ _ _ => rfl, fun _ c _ _ h => ⟨c, h, rfl⟩, rfl, rfl, rfl, fun _ _ => Iff.rfl, fun e' he' => by
    have : e' = e := by simpa using he'
    subst this
    exact .inr (.inl ⟨rfl, _, _, _, rfl, he⟩)⟩

theorem kd_net {F : World → Prop} {B : Goroutine} {cl : List Frame} {g : Goroutine} {w : World} {nT : Nat} (hT : ∀ w, F w → MGoo P ty Wg own Given Fz (AtGo P ty Wg N own m Given Fz) nT B w) (hf : nT + 3 ≤ N.fuel) (hf2 : 110 ≤ N.fuel)
    (h : AddKd P ty Wg (MR ty Wg own Given) (MD Wg own Given Fz) F B cl g w) : AtKd P ty Wg N own m Given Fz g w := by
  obtain ⟨hr, _, g', h1, h2⟩ := h
  refine ⟨hr, g', h1, ((Goo.of_goes h2).imp fun g w h => ?_).mono (by omega)⟩
  obtain ⟨hr, h⟩ := h
  refine ⟨hr, fun v hv hw => ?_⟩
  obtain ⟨g', h1, h2⟩ := h v hv hw
  refine ⟨g', h1, ((Goo.of_goes h2).imp fun g w h => ?_).mono hf2⟩
  obtain ⟨hr, g', h1, h2⟩ := h
  exact ⟨hr, g', h1, ((Goo.of_goes h2).bind (fun w => Rel.refl w) fun g w h => by obtain ⟨rfl, hF⟩ := h; exact hT w hF).mono hf⟩

theorem kw_net {F : World → Prop} {B g : Goroutine} {w : World} (hA : ∀ g w, F w → (∀ Shun, Goes P true AtRel (SD Shun) (fun g w' => g = B ∧ AtRel w w') 20 g w) → N.After m g w) (hf : 70 ≤ N.fuel)
    (h : WKw P Wg (MR ty Wg own Given) (MD Wg own Given Fz) F B g w) : AtKw P ty Wg N own m Given Fz g w := by
  obtain ⟨hr, g', h1, h2⟩ := h
  refine ⟨hr, g', h1, ((Goo.of_goes h2).imp fun g w h => ?_).mono (by omega)⟩
  obtain ⟨hr, hF, g', h1, h2⟩ := h
  exact ⟨hr, g', h1, hA g' w hF h2⟩

theorem w1_net {F : World → Prop} {B : Goroutine} {Anch : Goroutine → World → Prop} {g : Goroutine} {w : World} (hA : ∀ g w, F w → (∀ Shun, Goes P true AtRel (SD Shun) (fun g w' => g = B ∧ AtRel w w') 20 g w) → N.After m g w)
    (hAn : ∀ g w, Anch g w → N.Anch own m Given Fz g w) (hf : 70 ≤ N.fuel)
    (h : W1 P ty Wg (MR ty Wg own Given) (MD Wg own Given Fz) F B Anch g w) : AtW1 P ty Wg N own m Given Fz g w := by
  obtain ⟨hr, h⟩ := h
  refine ⟨hr, fun v hv hw => ?_⟩
  obtain ⟨g', h1, h2, h3⟩ := h v hv hw
  refine ⟨g', h1, fun e => ((Goo.of_goes (h2 e)).imp fun g w h => kw_net hA hf h).mono (by omega), fun e => ((Goo.of_goes (h3 e)).imp fun g w h => ?_).mono (by omega)⟩
  obtain ⟨hr, h⟩ := h
  refine ⟨hr, fun v' hv' hw' => ?_⟩
  obtain ⟨h4, h5⟩ := h v' hv' hw'
  refine ⟨fun e' => ?_, fun e' => ?_⟩
  · obtain ⟨g', h1, h2⟩ := h4 e'
    refine ⟨g', h1, ((Goo.of_goes h2).imp fun g w h => ?_).mono (by omega)⟩
    obtain ⟨hr, ho, h3, h4⟩ := h
    refine ⟨hr, ho, h3, fun hw'' => ?_⟩
    obtain ⟨g', h1, h2⟩ := h4 hw''
    refine ⟨g', h1, ((Goo.of_goes h2).imp fun g w h => ?_).mono (by omega)⟩
    obtain ⟨hr, h⟩ := h
    refine ⟨hr, fun hw3 => ?_⟩
    obtain ⟨g', h1, h2⟩ := h hw3
    exact ⟨g', h1, ((Goo.of_goes h2).imp fun g w h => kw_net hA hf h).mono (by omega)⟩
  · obtain ⟨g', h1, h2⟩ := h5 e'
    exact ⟨g', h1, ((Goo.of_goes h2).imp hAn).mono (by omega)⟩
end
end Go.Proofs.Ytblpmdolclalnaa

namespace Go.Proofs.Ytblpmdolclalnaa
open Go.Conc
section
variable {P : Program} {main : Bool} {b : Frame} {a : Act} {k : List Item} {cs : List Frame} {w : World} {ops : Array Oper} {i : Nat} {rest : List Nat} {o : Oper}

theorem stepG_recv {t e : TypeId} {x : Operand} {ok : Bool} {c : Nat} {z : Value} {dir : ChanDir} (ho : ops[i]? = some o) (hw : Region.wanted o (yielded ops a.tmps) = true) (hk : b.kind ≠ .early) (hop : o.op = .recv t x ok) (hx : a.eval x = .chan (some c))
    (ht : P.underlying t = some (.chan dir e)) (hz : ∀ w, (zeroValue e).run P w = .ok z w) :
    stepG P main (G (b.at a (.inRegion ops (i :: rest) :: k)) cs) w = .comm (G (b.at a (.inRegion ops (i :: rest) :: k)) cs) #[rcase c z] true (.recv ok) w #[] := by
  have hr : (execOp a.eval o).run P w = .ok (.comm #[rcase c z] true (.recv ok)) w := by
    unfold execOp
    simp only [hop, hx]
    simp [Sem.run_bind, run_underlying ht, hz, rcase]
  have he : (execOp a.eval o).events P w #[] = #[] := by
    unfold execOp
    simp only [hop, hx]
    simp [Sem.events_bind, run_underlying ht]
  rw [stepG_comm ho hw hk hr, listed_none he]

theorem stepG_send {x y : Operand} {c : Nat} {v : Value} (ho : ops[i]? = some o) (hw : Region.wanted o (yielded ops a.tmps) = true) (hk : b.kind ≠ .early) (hop : o.op = .send x y) (hx : a.eval x = .chan (some c)) (hy : a.eval y = v) :
    stepG P main (G (b.at a (.inRegion ops (i :: rest) :: k)) cs) w = .comm (G (b.at a (.inRegion ops (i :: rest) :: k)) cs) #[scase c v (.tuple #[])] true .send w #[] := by
  have hr : (execOp a.eval o).run P w = .ok (.comm #[scase c v (.tuple #[])] true .send) w := by
    unfold execOp
    simp only [hop, hx, hy]
    simp [scase]
  have he : (execOp a.eval o).events P w #[] = #[] := by
    unfold execOp
    simp only [hop, hx, hy]
    simp
  rw [stepG_comm ho hw hk hr, listed_none he]

/-- A deferred close. -/
def cdef (ats : Array TypeId) (ty : TypeId) (cst : Array Bool) (c : Nat) : Deferred := { target := .builtin .close ats ty cst, args := #[.chan (some c)] }
theorem stepG_deferC {x : Tmp} {ats : Array TypeId} {c : Nat} (ho : ops[i]? = some o) (hw : Region.wanted o (yielded ops a.tmps) = true) (hk : b.kind ≠ .early)
    (hop : o.op = .defer { callee := .builtin .close, args := #[.tmp x], argTypes := ats }) (hx : a.eval (.tmp x) = .chan (some c)) :
    stepG P main (G (b.at a (.inRegion ops (i :: rest) :: k)) cs) w = .go (G (b.at (Act.put ⟨a.tmps, cdef ats o.type #[false] c :: a.defers⟩ o.dst undef) (.inRegion ops rest :: k)) cs) w #[] := by
  have hr : (execOp a.eval o).run P w = .ok (.defer (cdef ats o.type #[false] c)) w := by
    unfold execOp
    simp only [hop]
    simp [resolve, hx, cdef]
  have he : (execOp a.eval o).events P w #[] = #[] := by
    unfold execOp
    simp only [hop]
    simp [resolve, hx]
  have hfin : (b.at ⟨a.tmps, cdef ats o.type #[false] c :: a.defers⟩ (.inRegion ops (i :: rest) :: k)).finish undef = b.at (Act.put ⟨a.tmps, cdef ats o.type #[false] c :: a.defers⟩ o.dst undef) (.inRegion ops rest :: k) := by rw [Frame.finish_at, ho]; rfl
  have hk' : (b.kind == CallKind.early) = false := by simpa using hk
  rw [stepG_oper ho hw, ← hfin]
  simp [stepG.apply, hr, he, G, Frame.at, hk', GStep.after, seen_none]

theorem stepG_unwind_close {todo : List Item} {ats : Array TypeId} {ty : TypeId} {cst : Array Bool} {c cap s r : Nat} {buf : Array Value} {tm : Bool} {ds : List Deferred} (hd : a.defers = cdef ats ty cst c :: ds) (hc : w.heap[c]? = some (.chan cap buf false s r tm))
    (hq : (P.funcs[b.fn]?).any (·.norace) = false) :
    stepG P main (G { b.at a todo with mode := .returning } cs) w = .go (G { b.at ⟨a.tmps, ds⟩ todo with mode := .returning } cs) (w.setChan c cap buf true s r tm) (closeEvents c) := by
  have hr : (invoke (.builtin .close ats ty cst) #[.chan (some c)]).run P w = .ok (.value (.tuple #[])) (w.setChan c cap buf true s r tm) := by
    simp [go_sem, invoke, run_close_open _ _ hc, World.setChan]
  have he : (invoke (.builtin .close ats ty cst) #[.chan (some c)]).events P w #[] = closeEvents c := by
    simp [go_sem, invoke, events_close_open _ _ hc, closeEvents]
  have hs : seen P b.fn (closeEvents c) = closeEvents c := seen_eq hq (by intro e he f; simp only [closeEvents, List.mem_toArray, List.mem_cons, List.not_mem_nil, or_false] at he; rcases he with rfl | rfl <;> simp)
  simp [G, stepG, unwind, callDeferred, Frame.at, hd, cdef, Sem.runT_eq, hr, he, hs, GStep.after]
end
end Go.Proofs.Ytblpmdolclalnaa
