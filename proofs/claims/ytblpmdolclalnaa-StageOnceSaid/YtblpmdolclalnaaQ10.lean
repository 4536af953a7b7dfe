/- The walks through sync.WaitGroup's Wait, for goroutine 0 of a net, in any rely and guarantee of some kind. Made by gen_wgm.py. From the walks of the group's functions to the stops of a net. The steps of a receive, a send, a close as a goroutine's own. The sink of Chain[int] (function 36) as a child of a net. An array of 64 values, spelt out. No condition. -/
import Derived.Test.YtblpmdolclalnaaQ02
import Derived.Test.YtblpmdolclalnaaQ03
import Derived.Test.YtblpmdolclalnaaQ08
import Derived.Test.YtblpmdolclalnaaQ09
import Derived.Conc.TokenWalk
set_option maxHeartbeats 16000000
set_option linter.unusedSimpArgs false
set_option linter.unusedVariables false
namespace Go.Proofs.Ytblpmdolclalnaa
open Go.Conc Go.RowKit Go.Conc.Lib Go.ConcR.Gen Go.ConcN.Gen
open Go.ConcR (WgAt KK stA smA rd wr mk DC0)
open Go.ConcN (WgLive st_flag st_waiters)
variable {L : WgLink}
set_option maxRecDepth 100000 in
theorem wg_round {P : Program} (H : WgLib P L) {Wg : Nat} {R : World → World → Prop} {D : World → World → Array Event → Prop} {F : World → Prop} (hX : Fits L.tWg Wg R D F) {b₀ : Frame} {a₀ : Act} {ops₀ : Array Oper} {i₀ : Nat} {rest₀ : List Nat} {k₀ : List Item} {cs : List Frame} (g : Goroutine) (w : World) (h : WAnch L Wg F (b₀.at a₀ (.inRegion ops₀ (i₀ :: rest₀) :: k₀) :: cs) g w) :
   Goes P true R D (W1 P L.tWg Wg R D F (G (b₀.at (a₀.put ((ops₀[i₀]?).bind (·.dst)) (.tuple #[])) (.inRegion ops₀ rest₀ :: k₀)) cs) (WAnch L Wg F (b₀.at a₀ (.inRegion ops₀ (i₀ :: rest₀) :: k₀) :: cs))) 30 g w := by
 obtain ⟨T, rfl, hT84, t0, hF⟩ := h
 obtain ⟨v0, v1, v2, v3, v4, v5, v6, v7, v8, v9, v10, v11, v12, v13, v14, v15, v16, v17, v18, v19, v20, v21, v22, v23, v24, v25, v26, v27, v28, v29, v30, v31, v32, v33, v34, v35, v36, v37, v38, v39, v40, v41, v42, v43, v44, v45, v46, v47, v48, v49, v50, v51, v52, v53, v54, v55, v56, v57, v58, v59, v60, v61, v62, v63, v64, v65, v66, v67, v68, v69, v70, v71, v72, v73, v74, v75, v76, v77, v78, v79, v80, v81, v82, v83, rfl⟩ := array84 T hT84
 simp only [List.getElem?_toArray, List.getElem?_cons_zero, Option.some.injEq] at t0
 subst t0
 lib_facts
 have hD := hX.idle
 have hL : ∀ {w w₁ : World}, (F w ∧ WgLive L.tWg Wg w) → R w w₁ → (F w₁ ∧ WgLive L.tWg Wg w₁) := fun h r => ⟨hX.kept _ _ r h.1, hX.live _ _ r h.2⟩
 simp only [L7, body_wait, waitFn, Option.getD_some]
 repeat (first | (first | ((with_reducible refine g_opG ?_); first | (refine g_unw hD rfl rfl ?_; intro _ h₁; replace hF := hL hF h₁; clear h₁; walk_nrm) | (refine Goes.step rfl ?_; intro _ h₁; replace hF := hL hF h₁; clear h₁; refine goes_oper_k rfl rfl (by k_ne) fun K hK => ?_; go_simp; refine hK _ _ ⟨g_idle hD fun e he => by have hm := mem_listed he; simp [go_sem, *] at hm, ?_⟩; clear hK K; try w_num) | ((with_reducible refine g_opG ?_); refine Goes.step rfl (fun _ h₁ => ?_); replace hF := hL hF h₁; clear h₁; refine goes_call rfl rfl (by k_ne) rfl H.f_uLoad (nm_uLoad L) rfl ⟨hD _, ?_⟩; walk_nrmf uLoadFn)) | ((first | ((with_reducible refine g_c (k' := ?_) true true hD ?_ ?_); rotate_left; focus exact rfl) | with_reducible refine g_r hD rfl ?_); intro _ h₁; replace hF := hL hF h₁; clear h₁)))
 refine Goes.stop (fun w₁ h₁ => ?_)
 replace hF := hL hF h₁
 clear h₁
 refine ⟨rfl, fun v hv hw => ?_⟩
 rcases Nat.eq_zero_or_pos v with rfl | hvp
 · replace hw : WgAt L.tWg Wg w₁ 0 0 := by simpa using hw
   refine ⟨_, stepG_load_atomic (v := 0) rfl rfl (by k_ne) rfl H.f_loadU64 (x_loadU64_n L) (x_loadU64_b L) (x_loadU64_x L) .u64 (x_loadU64_f L) rfl hw.cellSt, fun _ => ?_, fun h => absurd rfl h⟩
   clear hw
   walk_nrm
   repeat (first | (first | ((with_reducible refine g_opG ?_); first | (refine g_unw hD rfl rfl ?_; intro _ h₁; replace hF := hL hF h₁; clear h₁; walk_nrm) | (refine Goes.step rfl ?_; intro _ h₁; replace hF := hL hF h₁; clear h₁; refine goes_oper_k rfl rfl (by k_ne) fun K hK => ?_; go_simp; refine hK _ _ ⟨g_idle hD fun e he => by have hm := mem_listed he; simp [go_sem, *] at hm, ?_⟩; clear hK K; try w_num)) | ((first | ((with_reducible refine g_c (k' := ?_) true true hD ?_ ?_); rotate_left; focus exact rfl) | with_reducible refine g_r hD rfl ?_); intro _ h₁; replace hF := hL hF h₁; clear h₁) | ((with_reducible refine g_lvG ?_); refine Goes.step rfl (fun _ h₁ => ?_); replace hF := hL hF h₁; clear h₁; refine goes_leave1 rfl rfl H.f_uLoad rfl ⟨hD _, ?_⟩; walk_nrm)))
   refine Goes.stop (fun w₅ h₅ => ?_)
   replace hF := hL hF h₅
   clear h₅
   refine ⟨rfl, _, stepG_mark0 .enable (by simp) rfl rfl (by k_ne) rfl H.f_enable (x_enable_n L) (x_enable_b L) (x_enable_x L) (x_enable_f L), ?_⟩
   walk_nrm
   repeat ((first | ((with_reducible refine g_opG ?_); first | (refine g_unw hD rfl rfl ?_; intro _ h₁; replace hF := hL hF h₁; clear h₁; walk_nrm) | (refine Goes.step rfl ?_; intro _ h₁; replace hF := hL hF h₁; clear h₁; refine goes_oper_k rfl rfl (by k_ne) fun K hK => ?_; go_simp; refine hK _ _ ⟨g_idle hD fun e he => by have hm := mem_listed he; simp [go_sem, *] at hm, ?_⟩; clear hK K; try w_num)) | ((first | ((with_reducible refine g_c (k' := ?_) true true hD ?_ ?_); rotate_left; focus exact rfl) | with_reducible refine g_r hD rfl ?_); intro _ h₁; replace hF := hL hF h₁; clear h₁)))
   ((with_reducible refine g_opG ?_); refine Goes.step rfl (fun _ h₁ => ?_); replace hF := hL hF h₁; clear h₁; refine goes_oper_k rfl rfl (by k_ne) (fun Kx hKx => ?_); have hcv := run_convert_to_unsafe (P := P) H.underlying_tWgP H.underlying_tUP H.room_tWg (WgLive.cell0 hF.2).choose_spec; have hce := fun es => events_convert_to_unsafe (P := P) H.underlying_tWgP H.underlying_tUP H.room_tWg (WgLive.cell0 hF.2).choose_spec es; go_simp; refine hKx _ _ ⟨?_, ?_⟩; (focus (refine g_idle hD ?_; intro ex hex; have hmx := mem_listed hex; simp [go_sem, hce] at hmx; done)); clear hKx Kx hcv hce)
   refine Goes.stop (fun w₆ h₆ => ?_)
   replace hF := hL hF h₆
   clear h₆
   refine ⟨rfl, hF.1, _, stepG_markAt .acquire (by simp) rfl rfl (by k_ne) rfl H.f_acquire (x_acquire_n L) (x_acquire_b L) (x_acquire_x L) (x_acquire_f L) (by simp [Act.eval, stA]), fun Shun => ?_⟩
   replace hF := atRel_refl w₆
   have hT0 : ∀ {w w₁ : World}, AtRel w₆ w → AtRel w w₁ → AtRel w₆ w₁ := fun h r => atRel_trans _ _ _ h r
   have hD : ∀ w : World, SD Shun w w #[] := fun w => ⟨Nat.le_refl _, fun e he => by simp at he⟩
   walk_nrm
   repeat ((first | ((with_reducible refine g_opG ?_); first | (refine g_unw hD rfl rfl ?_; intro _ h₁; replace hF := hT0 hF h₁; clear h₁; walk_nrm) | (refine Goes.step rfl ?_; intro _ h₁; replace hF := hT0 hF h₁; clear h₁; refine goes_oper_k rfl rfl (by k_ne) fun K hK => ?_; go_simp; refine hK _ _ ⟨g_idle hD fun e he => by have hm := mem_listed he; simp [go_sem, *] at hm, ?_⟩; clear hK K; try w_num)) | ((first | ((with_reducible refine g_c (k' := ?_) true true hD ?_ ?_); rotate_left; focus exact rfl) | with_reducible refine g_r hD rfl ?_); intro _ h₁; replace hF := hT0 hF h₁; clear h₁)))
   (refine Goes.step rfl (fun _ h₁ => ?_); replace hF := hT0 hF h₁; clear h₁; refine goes_leave0 rfl rfl H.f_wait rfl ⟨hD _, ?_⟩; walk_nrm)
   exact Goes.stop fun _ h => ⟨rfl, hT0 hF h⟩
 · obtain ⟨S, hS⟩ : ∃ S : Int, (v : Int) * KK = S := ⟨_, rfl⟩
   have a1 : S / 4294967296 = (v : Int) := by rw [← hS]; simp only [KK]; omega
   have b1 : bits .and .u64 S 2147483648 = 0 := by rw [← hS]; have := st_flag v 0 (by omega) (by omega); simpa [KK] using this
   have b2 : bits .and .u64 S 2147483647 = 0 := by rw [← hS]; have := st_waiters v 0 (by omega) (by omega); simpa [KK] using this
   have c1 : IntKind.i32.wrap (v : Int) = (v : Int) := by rw [IntKind.wrap_i32]; omega
   have w1 : IntKind.u64.wrap (S + 1) = S + 1 := by rw [IntKind.wrap_u64, ← hS]; simp only [KK]; omega
   have q3 : decide ((v : Int) < 0) = false := decide_eq_false (by omega)
   have q4 : decide (0 < (v : Int)) = true := decide_eq_true (by omega)
   have q5 : ((v : Int) == 0) = false := by simp; omega
   have q6 : decide ((v : Int) = 0) = false := decide_eq_false (by omega)
   rw [hS] at hw
   refine ⟨_, stepG_load_atomic (v := S) rfl rfl (by k_ne) rfl H.f_loadU64 (x_loadU64_n L) (x_loadU64_b L) (x_loadU64_x L) .u64 (x_loadU64_f L) rfl hw.cellSt, fun h0 => absurd h0 (by omega), fun _ => ?_⟩
   clear hw
   walk_nrm
   repeat (first | (first | ((with_reducible refine g_opG ?_); first | (refine g_unw hD rfl rfl ?_; intro _ h₁; replace hF := hL hF h₁; clear h₁; walk_nrm) | (refine Goes.step rfl ?_; intro _ h₁; replace hF := hL hF h₁; clear h₁; refine goes_oper_k rfl rfl (by k_ne) fun K hK => ?_; go_simp; refine hK _ _ ⟨g_idle hD fun e he => by have hm := mem_listed he; simp [go_sem, *] at hm, ?_⟩; clear hK K; try w_num) | ((with_reducible refine g_opG ?_); refine Goes.step rfl (fun _ h₁ => ?_); replace hF := hL hF h₁; clear h₁; refine goes_call rfl rfl (by k_ne) rfl H.f_uCas (nm_uCas L) rfl ⟨hD _, ?_⟩; walk_nrmf uCasFn)) | ((first | ((with_reducible refine g_c (k' := ?_) true true hD ?_ ?_); rotate_left; focus exact rfl) | with_reducible refine g_r hD rfl ?_); intro _ h₁; replace hF := hL hF h₁; clear h₁) | ((with_reducible refine g_ct hD ?_ (fun _ h₁ => ?_)); (focus (first | exact rfl | (simp [Act.eval]; omega))); replace hF := hL hF h₁; clear h₁) | ((with_reducible refine g_cf hD ?_ (fun _ h₁ => ?_)); (focus (first | exact rfl | (simp [Act.eval]; omega))); replace hF := hL hF h₁; clear h₁) | ((with_reducible refine g_lvG ?_); refine Goes.step rfl (fun _ h₁ => ?_); replace hF := hL hF h₁; clear h₁; refine goes_leave1 rfl rfl H.f_uLoad rfl ⟨hD _, ?_⟩; walk_nrm)))
   refine Goes.stop (fun w₂ h₂ => ?_)
   replace hF := hL hF h₂
   clear h₂
   refine ⟨rfl, fun v' hv' hw => ⟨fun e => ?_, fun e => ?_⟩⟩
   · subst e
     rw [hS] at hw ⊢
     refine ⟨_, (stepG_cas_hit (v := S) (n := S + 1) rfl rfl (by k_ne) rfl H.f_casU64 (x_casU64_n L) (x_casU64_b L) (x_casU64_x L) .u64 (x_casU64_f L) rfl rfl rfl hw.cellSt (hw.thaw 0)).trans (by rfl), ?_⟩
     have hl' : WgLive L.tWg Wg (w₂.setCell (stA Wg) (.int .u64 (S + 1))) := ⟨_, _, hw.setSt _⟩
     replace hF : F (w₂.setCell (stA Wg) (.int .u64 (S + 1))) ∧ WgLive L.tWg Wg (w₂.setCell (stA Wg) (.int .u64 (S + 1))) := ⟨hX.set _ 0 _ (by omega) hF.1 hl' hF.2, hl'⟩
     clear hw hl'
     walk_nrm
     repeat (first | (first | ((with_reducible refine g_opG ?_); first | (refine g_unw hD rfl rfl ?_; intro _ h₁; replace hF := hL hF h₁; clear h₁; walk_nrm) | (refine Goes.step rfl ?_; intro _ h₁; replace hF := hL hF h₁; clear h₁; refine goes_oper_k rfl rfl (by k_ne) fun K hK => ?_; go_simp; refine hK _ _ ⟨g_idle hD fun e he => by have hm := mem_listed he; simp [go_sem, *] at hm, ?_⟩; clear hK K; try w_num)) | ((first | ((with_reducible refine g_c (k' := ?_) true true hD ?_ ?_); rotate_left; focus exact rfl) | with_reducible refine g_r hD rfl ?_); intro _ h₁; replace hF := hL hF h₁; clear h₁) | ((with_reducible refine g_lvG ?_); refine Goes.step rfl (fun _ h₁ => ?_); replace hF := hL hF h₁; clear h₁; refine goes_leave1 rfl rfl H.f_uCas rfl ⟨hD _, ?_⟩; walk_nrm)))
     ((with_reducible refine g_opG ?_); refine Goes.step rfl (fun _ h₁ => ?_); replace hF := hL hF h₁; clear h₁; refine goes_oper_k rfl rfl (by k_ne) (fun Kx hKx => ?_); have hcv := run_convert_to_unsafe (P := P) H.underlying_tPU32 H.underlying_tUP H.room_tU32 (WgLive.cell1 hF.2).choose_spec; have hce := fun es => events_convert_to_unsafe (P := P) H.underlying_tPU32 H.underlying_tUP H.room_tU32 (WgLive.cell1 hF.2).choose_spec es; go_simp; refine hKx _ _ ⟨?_, ?_⟩; (focus (refine g_idle hD ?_; intro ex hex; have hmx := mem_listed hex; simp [go_sem, hce] at hmx; done)); clear hKx Kx hcv hce)
     (refine Goes.step rfl (fun _ h₁ => ?_); replace hF := hL hF h₁; clear h₁)
     rw [stepG_markAt .write (by simp) rfl rfl (by k_ne) rfl H.f_raceWrite (x_raceWrite_n L) (x_raceWrite_b L) (x_raceWrite_x L) (x_raceWrite_f L) (ad := ⟨Wg, 1, none⟩) (by simp [Act.eval])]
     simp only [goes_go]
     refine ⟨hX.said _ 1 _ (.inr rfl), ?_⟩
     walk_nrm
     repeat (first | (first | ((with_reducible refine g_opG ?_); first | (refine g_unw hD rfl rfl ?_; intro _ h₁; replace hF := hL hF h₁; clear h₁; walk_nrm) | (refine Goes.step rfl ?_; intro _ h₁; replace hF := hL hF h₁; clear h₁; refine goes_oper_k rfl rfl (by k_ne) fun K hK => ?_; go_simp; refine hK _ _ ⟨g_idle hD fun e he => by have hm := mem_listed he; simp [go_sem, *] at hm, ?_⟩; clear hK K; try w_num)) | ((first | ((with_reducible refine g_c (k' := ?_) true true hD ?_ ?_); rotate_left; focus exact rfl) | with_reducible refine g_r hD rfl ?_); intro _ h₁; replace hF := hL hF h₁; clear h₁)))
     refine Goes.stop (fun w₃ h₃ => ?_)
     replace hF := hL hF h₃
     clear h₃
     refine ⟨rfl, rfl, fun ⟨st, hw⟩ => stepG_semacquire_wait rfl rfl rfl H.f_semacquire (x_semacquire_n L) (x_semacquire_b L) (x_semacquire_x L) (x_semacquire_f L) (by simp [Act.eval, smA]) hw.cellSm, fun hf => ?_⟩
     refine ⟨_, (stepG_semacquire (n := 1) rfl rfl (by k_ne) rfl H.f_semacquire (x_semacquire_n L) (x_semacquire_b L) (x_semacquire_x L) (x_semacquire_f L) (by simp [Act.eval, smA]) hf.cellSm (by k_ne) (hf.thaw 1)).trans (by rfl), ?_⟩
     have hl' : WgLive L.tWg Wg (w₃.setCell (smA Wg) (.int .u32 0)) := ⟨_, _, hf.setSm 0⟩
     replace hF : F (w₃.setCell (smA Wg) (.int .u32 0)) ∧ WgLive L.tWg Wg (w₃.setCell (smA Wg) (.int .u32 0)) := ⟨hX.set _ 1 _ (by omega) hF.1 hl' hF.2, hl'⟩
     clear hf hl'
     walk_nrm
     repeat (first | (first | ((with_reducible refine g_opG ?_); first | (refine g_unw hD rfl rfl ?_; intro _ h₁; replace hF := hL hF h₁; clear h₁; walk_nrm) | (refine Goes.step rfl ?_; intro _ h₁; replace hF := hL hF h₁; clear h₁; refine goes_oper_k rfl rfl (by k_ne) fun K hK => ?_; go_simp; refine hK _ _ ⟨g_idle hD fun e he => by have hm := mem_listed he; simp [go_sem, *] at hm, ?_⟩; clear hK K; try w_num) | ((with_reducible refine g_opG ?_); refine Goes.step rfl (fun _ h₁ => ?_); replace hF := hL hF h₁; clear h₁; refine goes_call rfl rfl (by k_ne) rfl H.f_uLoad (nm_uLoad L) rfl ⟨hD _, ?_⟩; walk_nrmf uLoadFn)) | ((first | ((with_reducible refine g_c (k' := ?_) true true hD ?_ ?_); rotate_left; focus exact rfl) | with_reducible refine g_r hD rfl ?_); intro _ h₁; replace hF := hL hF h₁; clear h₁)))
     refine Goes.stop (fun w₄ h₄ => ?_)
     replace hF := hL hF h₄
     clear h₄
     refine ⟨rfl, fun hw => ⟨_, stepG_load_atomic (v := 0) rfl rfl (by k_ne) rfl H.f_loadU64 (x_loadU64_n L) (x_loadU64_b L) (x_loadU64_x L) .u64 (x_loadU64_f L) rfl hw.cellSt, ?_⟩⟩
     clear hw
     walk_nrm
     repeat (first | (first | ((with_reducible refine g_opG ?_); first | (refine g_unw hD rfl rfl ?_; intro _ h₁; replace hF := hL hF h₁; clear h₁; walk_nrm) | (refine Goes.step rfl ?_; intro _ h₁; replace hF := hL hF h₁; clear h₁; refine goes_oper_k rfl rfl (by k_ne) fun K hK => ?_; go_simp; refine hK _ _ ⟨g_idle hD fun e he => by have hm := mem_listed he; simp [go_sem, *] at hm, ?_⟩; clear hK K; try w_num)) | ((first | ((with_reducible refine g_c (k' := ?_) true true hD ?_ ?_); rotate_left; focus exact rfl) | with_reducible refine g_r hD rfl ?_); intro _ h₁; replace hF := hL hF h₁; clear h₁) | ((with_reducible refine g_lvG ?_); refine Goes.step rfl (fun _ h₁ => ?_); replace hF := hL hF h₁; clear h₁; refine goes_leave1 rfl rfl H.f_uLoad rfl ⟨hD _, ?_⟩; walk_nrm)))
     refine Goes.stop (fun w₅ h₅ => ?_)
     replace hF := hL hF h₅
     clear h₅
     refine ⟨rfl, _, stepG_mark0 .enable (by simp) rfl rfl (by k_ne) rfl H.f_enable (x_enable_n L) (x_enable_b L) (x_enable_x L) (x_enable_f L), ?_⟩
     walk_nrm
     repeat ((first | ((with_reducible refine g_opG ?_); first | (refine g_unw hD rfl rfl ?_; intro _ h₁; replace hF := hL hF h₁; clear h₁; walk_nrm) | (refine Goes.step rfl ?_; intro _ h₁; replace hF := hL hF h₁; clear h₁; refine goes_oper_k rfl rfl (by k_ne) fun K hK => ?_; go_simp; refine hK _ _ ⟨g_idle hD fun e he => by have hm := mem_listed he; simp [go_sem, *] at hm, ?_⟩; clear hK K; try w_num)) | ((first | ((with_reducible refine g_c (k' := ?_) true true hD ?_ ?_); rotate_left; focus exact rfl) | with_reducible refine g_r hD rfl ?_); intro _ h₁; replace hF := hL hF h₁; clear h₁)))
     ((with_reducible refine g_opG ?_); refine Goes.step rfl (fun _ h₁ => ?_); replace hF := hL hF h₁; clear h₁; refine goes_oper_k rfl rfl (by k_ne) (fun Kx hKx => ?_); have hcv := run_convert_to_unsafe (P := P) H.underlying_tWgP H.underlying_tUP H.room_tWg (WgLive.cell0 hF.2).choose_spec; have hce := fun es => events_convert_to_unsafe (P := P) H.underlying_tWgP H.underlying_tUP H.room_tWg (WgLive.cell0 hF.2).choose_spec es; go_simp; refine hKx _ _ ⟨?_, ?_⟩; (focus (refine g_idle hD ?_; intro ex hex; have hmx := mem_listed hex; simp [go_sem, hce] at hmx; done)); clear hKx Kx hcv hce)
     refine Goes.stop (fun w₆ h₆ => ?_)
     replace hF := hL hF h₆
     clear h₆
     refine ⟨rfl, hF.1, _, stepG_markAt .acquire (by simp) rfl rfl (by k_ne) rfl H.f_acquire (x_acquire_n L) (x_acquire_b L) (x_acquire_x L) (x_acquire_f L) (by simp [Act.eval, stA]), fun Shun => ?_⟩
     replace hF := atRel_refl w₆
     have hT0 : ∀ {w w₁ : World}, AtRel w₆ w → AtRel w w₁ → AtRel w₆ w₁ := fun h r => atRel_trans _ _ _ h r
     have hD : ∀ w : World, SD Shun w w #[] := fun w => ⟨Nat.le_refl _, fun e he => by simp at he⟩
     walk_nrm
     repeat ((first | ((with_reducible refine g_opG ?_); first | (refine g_unw hD rfl rfl ?_; intro _ h₁; replace hF := hT0 hF h₁; clear h₁; walk_nrm) | (refine Goes.step rfl ?_; intro _ h₁; replace hF := hT0 hF h₁; clear h₁; refine goes_oper_k rfl rfl (by k_ne) fun K hK => ?_; go_simp; refine hK _ _ ⟨g_idle hD fun e he => by have hm := mem_listed he; simp [go_sem, *] at hm, ?_⟩; clear hK K; try w_num)) | ((first | ((with_reducible refine g_c (k' := ?_) true true hD ?_ ?_); rotate_left; focus exact rfl) | with_reducible refine g_r hD rfl ?_); intro _ h₁; replace hF := hT0 hF h₁; clear h₁)))
     (refine Goes.step rfl (fun _ h₁ => ?_); replace hF := hT0 hF h₁; clear h₁; refine goes_leave0 rfl rfl H.f_wait rfl ⟨hD _, ?_⟩; walk_nrm)
     exact Goes.stop fun _ h => ⟨rfl, hT0 hF h⟩
   · refine ⟨_, stepG_cas_miss (v := (v' : Int) * KK) (old := S) (n := S + 1) rfl rfl (by k_ne) rfl H.f_casU64 (x_casU64_n L) (x_casU64_b L) (x_casU64_x L) .u64 (x_casU64_f L) rfl rfl rfl hw.cellSt (hw.thaw 0) (by rw [← hS]; simp only [KK]; omega), ?_⟩
     clear hw
     walk_nrm
     (refine Goes.step rfl (fun _ h₁ => ?_); replace hF := hL hF h₁; clear h₁; refine goes_oper_k rfl rfl (by k_ne) (fun K hK => ?_); go_simp; refine hK _ _ ⟨?_, ?_⟩; (focus (refine g_idle hD ?_; intro e he; have hm := mem_listed he; simp [go_sem, *] at hm; done)); clear hK K; try w_num)
     repeat (first | (first | ((with_reducible refine g_opG ?_); first | (refine g_unw hD rfl rfl ?_; intro _ h₁; replace hF := hL hF h₁; clear h₁; walk_nrm) | (refine Goes.step rfl ?_; intro _ h₁; replace hF := hL hF h₁; clear h₁; refine goes_oper_k rfl rfl (by k_ne) fun K hK => ?_; go_simp; refine hK _ _ ⟨g_idle hD fun e he => by have hm := mem_listed he; simp [go_sem, *] at hm, ?_⟩; clear hK K; try w_num)) | ((first | ((with_reducible refine g_c (k' := ?_) false true hD ?_ ?_); rotate_left; focus exact rfl) | with_reducible refine g_r hD rfl ?_); intro _ h₁; replace hF := hL hF h₁; clear h₁) | ((with_reducible refine g_lvG ?_); refine Goes.step rfl (fun _ h₁ => ?_); replace hF := hL hF h₁; clear h₁; refine goes_leave1 rfl rfl H.f_uCas rfl ⟨hD _, ?_⟩; walk_nrm)))
     (refine Goes.step rfl (fun _ h₁ => ?_); replace hF := hL hF h₁; clear h₁; rw [stepG_inLoop]; simp only [goes_go]; refine ⟨hD _, ?_⟩)
     exact Goes.stop (fun w₃ h₃ => ⟨_, rfl, by simp, by simp, hL hF h₃⟩)
set_option maxRecDepth 100000 in
theorem wg_wait {P : Program} (H : WgLib P L) {Wg : Nat} {R : World → World → Prop} {D : World → World → Array Event → Prop} {F : World → Prop} (hX : Fits L.tWg Wg R D F) {b₀ : Frame} {a₀ : Act} {ops₀ : Array Oper} {i₀ : Nat} {rest₀ : List Nat} {k₀ : List Item} {cs : List Frame} (w : World) (hF : F w ∧ WgLive L.tWg Wg w) :
   Goes P true R D (WKd P L Wg R D F (b₀.at a₀ (.inRegion ops₀ (i₀ :: rest₀) :: k₀) :: cs)) 3 (G ((base L.wait).at ⟨#[.pointer (some ⟨Wg, 0, none⟩), undef, undef, undef, undef, undef, undef, undef, undef, undef, undef, undef, undef, undef, undef, undef, undef, undef, undef, undef, undef, undef, undef, undef, undef, undef, undef, undef, undef, undef, undef, undef, undef, undef, undef, undef, undef, undef, undef, undef, undef, undef, undef, undef, undef, undef, undef, undef, undef, undef, undef, undef, undef, undef, undef, undef, undef, undef, undef, undef, undef, undef, undef, undef, undef, undef, undef, undef, undef, undef, undef, undef, undef, undef, undef, undef, undef, undef, undef, undef, undef, undef, undef, undef], []⟩ [.code (body_wait L)]) (b₀.at a₀ (.inRegion ops₀ (i₀ :: rest₀) :: k₀) :: cs)) w := by
 lib_facts
 have hD := hX.idle
 have hL : ∀ {w w₁ : World}, (F w ∧ WgLive L.tWg Wg w) → R w w₁ → (F w₁ ∧ WgLive L.tWg Wg w₁) := fun h r => ⟨hX.kept _ _ r h.1, hX.live _ _ r h.2⟩
 simp only [body_wait, waitFn, Option.getD_some]
 repeat ((first | ((with_reducible refine g_opG ?_); first | (refine g_unw hD rfl rfl ?_; intro _ h₁; replace hF := hL hF h₁; clear h₁; walk_nrm) | (refine Goes.step rfl ?_; intro _ h₁; replace hF := hL hF h₁; clear h₁; refine goes_oper_k rfl rfl (by k_ne) fun K hK => ?_; go_simp; refine hK _ _ ⟨g_idle hD fun e he => by have hm := mem_listed he; simp [go_sem, *] at hm, ?_⟩; clear hK K; try w_num)) | ((first | ((with_reducible refine g_c (k' := ?_) true true hD ?_ ?_); rotate_left; focus exact rfl) | with_reducible refine g_r hD rfl ?_); intro _ h₁; replace hF := hL hF h₁; clear h₁)))
 refine Goes.stop (fun w₁ h₁ => ?_)
 replace hF := hL hF h₁
 clear h₁
 refine ⟨rfl, ⟨_, rfl⟩, _, stepG_mark0 .disable (by simp) rfl rfl (by k_ne) rfl H.f_disable (x_disable_n L) (x_disable_b L) (x_disable_x L) (x_disable_f L), ?_⟩
 walk_nrm
 (refine Goes.step rfl (fun _ h₁ => ?_); replace hF := hL hF h₁; clear h₁; rw [stepG_region_end]; simp only [goes_go]; refine ⟨hD _, ?_⟩)
 (refine Goes.step rfl (fun _ h₁ => ?_); replace hF := hL hF h₁; clear h₁; rw [stepG_block]; simp only [goes_go]; refine ⟨hD _, ?_⟩)
 (refine Goes.step rfl (fun _ h₁ => ?_); replace hF := hL hF h₁; clear h₁; rw [stepG_loop]; simp only [goes_go]; refine ⟨hD _, ?_⟩)
 exact Goes.stop (fun w₂ h₂ => ⟨_, rfl, by simp, by simp, hL hF h₂⟩)
end Go.Proofs.Ytblpmdolclalnaa
namespace Go.Proofs.Ytblpmdolclalnaa
open Go.Conc Go.Conc.Lib
open Go.ConcR (WgAt KK stA smA rd wr mk DC0)
open Go.ConcN (WgLive)
section
variable {P : Program} {ty : TypeId} {Wg : Nat} {N : Net} {own : Nat → Prop} {m : N.M} {Given : Cells} {Fz : Nat → Prop}
theorem fits_main (hG : ∀ x, Given Wg x) {F : World → Prop} (hF : ∀ w w₁, MR ty Wg own Given w w₁ → F w → F w₁) : Fits ty Wg (MR ty Wg own Given) (MD Wg own Given Fz) F where
 live _ _ r := r.live
 kept := hF
 set w o x _ h hl _ := hF _ _ (rel_wg rfl (fun y hk => hk.2 (hG y)) hl) h
 idle w := Gua.idle w
 said w o e he := ⟨Nat.le_refl _, fun _ _ _ => rfl, fun _ _ _ _ => rfl, fun _ c _ _ h => ⟨c, h, rfl⟩, rfl, rfl, rfl, fun _ _ => Iff.rfl, fun e' he' => by
   have : e' = e := by simpa using he'
   subst this
   exact .inr (.inl ⟨rfl, _, _, _, rfl, he⟩)⟩
theorem kd_net {F : World → Prop} {B : Goroutine} {cl : List Frame} {g : Goroutine} {w : World} {nT : Nat} (hT : ∀ w, F w → MGoo P ty Wg own Given Fz (AtGo P ty Wg N own m Given Fz) nT B w) (hf : nT + 3 ≤ N.fuel) (hf2 : 110 ≤ N.fuel)
   (h : AddKd P ty Wg (MR ty Wg own Given) (MD Wg own Given Fz) F B cl g w) : AtKd P ty Wg N own m Given Fz g w := by
 obtain ⟨hr, _, g', h1, h2⟩ := h
 refine ⟨hr, g', h1, ((Goo.of_goes h2).imp fun g w h => ?_).mono (by omega)⟩
 obtain ⟨hr, h⟩ := h
 refine ⟨hr, fun v hv hw => ?_⟩
 obtain ⟨g', h1, h2⟩ := h v hv hw
 refine ⟨g', h1, ((Goo.of_goes h2).imp fun g w h => ?_).mono hf2⟩
 obtain ⟨hr, g', h1, h2⟩ := h
 exact ⟨hr, g', h1, ((Goo.of_goes h2).bind (fun w => Rel.refl w) fun g w h => by obtain ⟨rfl, hF⟩ := h; exact hT w hF).mono hf⟩
theorem kw_net {F : World → Prop} {B g : Goroutine} {w : World} (hA : ∀ g w, F w → (∀ Shun, Goes P true AtRel (SD Shun) (fun g w' => g = B ∧ AtRel w w') 20 g w) → N.After m g w) (hf : 70 ≤ N.fuel)
   (h : WKw P Wg (MR ty Wg own Given) (MD Wg own Given Fz) F B g w) : AtKw P ty Wg N own m Given Fz g w := by
 obtain ⟨hr, g', h1, h2⟩ := h
 refine ⟨hr, g', h1, ((Goo.of_goes h2).imp fun g w h => ?_).mono (by omega)⟩
 obtain ⟨hr, hF, g', h1, h2⟩ := h
 exact ⟨hr, g', h1, hA g' w hF h2⟩
theorem w1_net {F : World → Prop} {B : Goroutine} {Anch : Goroutine → World → Prop} {g : Goroutine} {w : World} (hA : ∀ g w, F w → (∀ Shun, Goes P true AtRel (SD Shun) (fun g w' => g = B ∧ AtRel w w') 20 g w) → N.After m g w)
   (hAn : ∀ g w, Anch g w → N.Anch own m Given Fz g w) (hf : 70 ≤ N.fuel)
   (h : W1 P ty Wg (MR ty Wg own Given) (MD Wg own Given Fz) F B Anch g w) : AtW1 P ty Wg N own m Given Fz g w := by
 obtain ⟨hr, h⟩ := h
 refine ⟨hr, fun v hv hw => ?_⟩
 obtain ⟨g', h1, h2, h3⟩ := h v hv hw
 refine ⟨g', h1, fun e => ((Goo.of_goes (h2 e)).imp fun g w h => kw_net hA hf h).mono (by omega), fun e => ((Goo.of_goes (h3 e)).imp fun g w h => ?_).mono (by omega)⟩
 obtain ⟨hr, h⟩ := h
 refine ⟨hr, fun v' hv' hw' => ?_⟩
 obtain ⟨h4, h5⟩ := h v' hv' hw'
 refine ⟨fun e' => ?_, fun e' => ?_⟩
 · obtain ⟨g', h1, h2⟩ := h4 e'
   refine ⟨g', h1, ((Goo.of_goes h2).imp fun g w h => ?_).mono (by omega)⟩
   obtain ⟨hr, ho, h3, h4⟩ := h
   refine ⟨hr, ho, h3, fun hw'' => ?_⟩
   obtain ⟨g', h1, h2⟩ := h4 hw''
   refine ⟨g', h1, ((Goo.of_goes h2).imp fun g w h => ?_).mono (by omega)⟩
   obtain ⟨hr, h⟩ := h
   refine ⟨hr, fun hw3 => ?_⟩
   obtain ⟨g', h1, h2⟩ := h hw3
   exact ⟨g', h1, ((Goo.of_goes h2).imp fun g w h => kw_net hA hf h).mono (by omega)⟩
 · obtain ⟨g', h1, h2⟩ := h5 e'
   exact ⟨g', h1, ((Goo.of_goes h2).imp hAn).mono (by omega)⟩
end
end Go.Proofs.Ytblpmdolclalnaa
namespace Go.Proofs.Ytblpmdolclalnaa
open Go.Conc
section
variable {P : Program} {main : Bool} {b : Frame} {a : Act} {k : List Item} {cs : List Frame} {w : World} {ops : Array Oper} {i : Nat} {rest : List Nat} {o : Oper}
theorem stepG_recv {t e : TypeId} {x : Operand} {ok : Bool} {c : Nat} {z : Value} {dir : ChanDir} (ho : ops[i]? = some o) (hw : Region.wanted o (yielded ops a.tmps) = true) (hk : b.kind ≠ .early) (hop : o.op = .recv t x ok) (hx : a.eval x = .chan (some c))
   (ht : P.underlying t = some (.chan dir e)) (hz : ∀ w, (zeroValue e).run P w = .ok z w) :
   stepG P main (G (b.at a (.inRegion ops (i :: rest) :: k)) cs) w = .comm (G (b.at a (.inRegion ops (i :: rest) :: k)) cs) #[rcase c z] true (.recv ok) w #[] := by
 have hr : (execOp a.eval o).run P w = .ok (.comm #[rcase c z] true (.recv ok)) w := by
   unfold execOp
   simp only [hop, hx]
   simp [Sem.run_bind, run_underlying ht, hz, rcase]
 have he : (execOp a.eval o).events P w #[] = #[] := by
   unfold execOp
   simp only [hop, hx]
   simp [Sem.events_bind, run_underlying ht]
 rw [stepG_comm ho hw hk hr, listed_none he]
theorem stepG_send {x y : Operand} {c : Nat} {v : Value} (ho : ops[i]? = some o) (hw : Region.wanted o (yielded ops a.tmps) = true) (hk : b.kind ≠ .early) (hop : o.op = .send x y) (hx : a.eval x = .chan (some c)) (hy : a.eval y = v) :
   stepG P main (G (b.at a (.inRegion ops (i :: rest) :: k)) cs) w = .comm (G (b.at a (.inRegion ops (i :: rest) :: k)) cs) #[scase c v (.tuple #[])] true .send w #[] := by
 have hr : (execOp a.eval o).run P w = .ok (.comm #[scase c v (.tuple #[])] true .send) w := by
   unfold execOp
   simp only [hop, hx, hy]
   simp [scase]
 have he : (execOp a.eval o).events P w #[] = #[] := by
   unfold execOp
   simp only [hop, hx, hy]
   simp
 rw [stepG_comm ho hw hk hr, listed_none he]
def cdef (ats : Array TypeId) (ty : TypeId) (cst : Array Bool) (c : Nat) : Deferred := { target := .builtin .close ats ty cst, args := #[.chan (some c)] }
theorem stepG_deferC {x : Tmp} {ats : Array TypeId} {c : Nat} (ho : ops[i]? = some o) (hw : Region.wanted o (yielded ops a.tmps) = true) (hk : b.kind ≠ .early)
   (hop : o.op = .defer { callee := .builtin .close, args := #[.tmp x], argTypes := ats }) (hx : a.eval (.tmp x) = .chan (some c)) :
   stepG P main (G (b.at a (.inRegion ops (i :: rest) :: k)) cs) w = .go (G (b.at (Act.put ⟨a.tmps, cdef ats o.type #[false] c :: a.defers⟩ o.dst undef) (.inRegion ops rest :: k)) cs) w #[] := by
 have hr : (execOp a.eval o).run P w = .ok (.defer (cdef ats o.type #[false] c)) w := by
   unfold execOp
   simp only [hop]
   simp [resolve, hx, cdef]
 have he : (execOp a.eval o).events P w #[] = #[] := by
   unfold execOp
   simp only [hop]
   simp [resolve, hx]
 have hfin : (b.at ⟨a.tmps, cdef ats o.type #[false] c :: a.defers⟩ (.inRegion ops (i :: rest) :: k)).finish undef = b.at (Act.put ⟨a.tmps, cdef ats o.type #[false] c :: a.defers⟩ o.dst undef) (.inRegion ops rest :: k) := by rw [Frame.finish_at, ho]; rfl
 have hk' : (b.kind == CallKind.early) = false := by simpa using hk
 rw [stepG_oper ho hw, ← hfin]
 simp [stepG.apply, hr, he, G, Frame.at, hk', GStep.after, seen_none]
theorem stepG_unwind_close {todo : List Item} {ats : Array TypeId} {ty : TypeId} {cst : Array Bool} {c cap s r : Nat} {buf : Array Value} {tm : Bool} {ds : List Deferred} (hd : a.defers = cdef ats ty cst c :: ds) (hc : w.heap[c]? = some (.chan cap buf false s r tm))
   (hq : (P.funcs[b.fn]?).any (·.norace) = false) :
   stepG P main (G { b.at a todo with mode := .returning } cs) w = .go (G { b.at ⟨a.tmps, ds⟩ todo with mode := .returning } cs) (w.setChan c cap buf true s r tm) (closeEvents c) := by
 have hr : (invoke (.builtin .close ats ty cst) #[.chan (some c)]).run P w = .ok (.value (.tuple #[])) (w.setChan c cap buf true s r tm) := by
   simp [go_sem, invoke, run_close_open _ _ hc, World.setChan]
 have he : (invoke (.builtin .close ats ty cst) #[.chan (some c)]).events P w #[] = closeEvents c := by
   simp [go_sem, invoke, events_close_open _ _ hc, closeEvents]
 have hs : seen P b.fn (closeEvents c) = closeEvents c := seen_eq hq (by intro e he f; simp only [closeEvents, List.mem_toArray, List.mem_cons, List.not_mem_nil, or_false] at he; rcases he with rfl | rfl <;> simp)
 simp [G, stepG, unwind, callDeferred, Frame.at, hd, cdef, Sem.runT_eq, hr, he, hs, GStep.after]
end
end Go.Proofs.Ytblpmdolclalnaa
namespace Go.Proofs.Ytblpmdolclalnaa
open Go.Conc Go.RowKit Go.Conc.Lib Go.ConcR.Gen Go.ConcN.Gen
open Go.ConcR (WgAt KK stA smA rd wr mk DC0)
open Go.ConcN (WgLive)
noncomputable def bot : Frame := { (default : Frame) with fn := Try.prog.funcs.size, defers := [], mode := .panicking [goexitEntry] }
noncomputable def body36 : Code := Try.f36.body.getD .skip
abbrev ptr (b : Nat) : Value := .pointer (some ⟨b, 0, none⟩)
def lpOf : Code → Code
 | .seq _ y => lpOf y
 | .block _ c => lpOf c
 | .loop c => c
 | _ => .skip
def atRecv (lp : Code) : List Item := match lp with | .seq (.region _ R _) rest => [.inRegion R [0, 1], .code rest, .inLoop lp, .inBlock 0] | _ => []
noncomputable def lp36 : Code := lpOf body36
structure SnkF (own : Nat → Prop) (Got : Cells) (Rd : Nat → Prop) (Wg e8 e13 c : Nat) (got : List Value) (w : World) : Prop where
 live : WgLive 66 Wg w
 rd : Rd e8
 gt : Got e13 0
 last : w.cell? ⟨e8, 0, none⟩ = some (.chan (some c))
 lastc : ∃ cs : Array Value, w.heap[e8]? = some (.cells cs 75 (0, 0))
 outc : ∃ cs : Array Value, w.heap[e13]? = some (.cells cs 22 (0, 0))
 out : ∃ v, w.cell? ⟨e13, 0, none⟩ = some v ∧ w.ownsRow 0 3 1 v got.length got ∧ ∀ g, v.ownBlock = some g → own g
 ints : ∀ x ∈ got, ∃ n, x = .int .i64 n
theorem cell_lt {w : World} {b o : Nat} {v : Value} (h : w.cell? ⟨b, o, none⟩ = some v) : b < w.heap.size := by
 unfold World.cell? at h
 cases hh : w.heap[b]? with
 | none => simp [hh] at h
 | some x => exact (Array.getElem?_eq_some_iff.1 hh).1
theorem ownsRow_of {w w₁ : World} {e n : Nat} {v : Value} {xs : List Value} (h : w.ownsRow 0 e 1 v n xs) (hb : ∀ g, v.ownBlock = some g → w₁.heap[g]? = w.heap[g]?) : w₁.ownsRow 0 e 1 v n xs := by
 refine ⟨h.1, h.2.imp id fun ⟨g, cap, cur, a1, a2, a3, a4⟩ => ⟨g, cap, cur, a1, a2, ?_, a4⟩⟩
 rw [hb g (by rw [a1]; rfl)]; exact a3
section
variable {own : Nat → Prop} {Got : Cells} {Rd : Nat → Prop} {Wg e8 e13 c : Nat} {got : List Value} {w w₁ : World}
theorem SnkF.rely (h : SnkF own Got Rd Wg e8 e13 c got w) (r : KR 66 Wg own Got Rd w w₁) : SnkF own Got Rd Wg e8 e13 c got w₁ := by
 obtain ⟨v, h1, h2, h3⟩ := h.out
 obtain ⟨cs, hc⟩ := h.outc
 obtain ⟨cs', hc', _⟩ := r.form _ _ _ _ hc
 obtain ⟨ds, hd⟩ := h.lastc
 obtain ⟨ds', hd', _⟩ := r.form _ _ _ _ hd
 refine ⟨r.live h.live, h.rd, h.gt, (r.cell e8 0 (cell_lt h.last) (.inr (.inr h.rd))).trans h.last, ⟨ds', hd'⟩, ⟨cs', hc'⟩, ⟨v, (r.cell e13 0 (cell_lt h1) (.inr (.inl h.gt))).trans h1, ownsRow_of h2 fun g hg => r.blk g (h2.lt g hg).2 fun _ => .inl (h3 g hg), h3⟩, h.ints⟩
noncomputable def sinkAt (Wg : Nat) (T : Array Value) : Goroutine := G ((baseD 36).at ⟨T, [dcall 28 #[ptr Wg]]⟩ (atRecv lp36)) [bot]
structure SnkT (Wg e8 e13 c : Nat) (T : Array Value) : Prop where
 size : T.size = 12
 t0 : T[0]? = some (ptr Wg)
 t1 : T[1]? = some (ptr e8)
 t2 : T[2]? = some (ptr e13)
 t4 : T[4]? = some (.chan (some c))
def call36 (Wg e8 e13 : Nat) : Deferred := { target := .fn (.func 36) #[ptr Wg, ptr e8, ptr e13], args := #[] }
theorem born36 (Wg e8 e13 : Nat) (w : World) : stepG Try.prog false (born Try.prog (call36 Wg e8 e13)) w =
   .go (G ((baseD 36).at ⟨#[ptr Wg, ptr e8, ptr e13, undef, undef, undef, undef, undef, undef, undef, undef, undef], []⟩ [.code body36]) [bot]) w #[] := by
 simp [born, call36, stepG, unwind, callDeferred, invoke, callFunc, Try.func36, Try.f36, seen, GStep.after, G, Frame.enter, Frame.at, baseD, bot, body36]
set_option maxRecDepth 100000 in
theorem sink_born (hF : SnkF own Got Rd Wg e8 e13 c [] w) :
   Goes Try.prog false (KR 66 Wg own Got Rd) (KD Wg own Got Rd) (fun g w => ∃ T, SnkT Wg e8 e13 c T ∧ g = sinkAt Wg T ∧ SnkF own Got Rd Wg e8 e13 c [] w) 20 (born Try.prog (call36 Wg e8 e13)) w := by
 have hD : ∀ w, KD Wg own Got Rd w w #[] := fun w => Gua.idle w
 refine Goes.step rfl fun w₁ h₁ => ?_
 replace hF := hF.rely h₁
 clear h₁
 rw [born36]
 refine ⟨by exact hD _, ?_⟩
 simp only [body36, Try.f36, Option.getD_some]
 repeat (first | (first | ((with_reducible refine g_opG ?_); first | (refine g_unw hD rfl rfl ?_; intro _ h₁; replace hF := SnkF.rely hF h₁; clear h₁; walk_nrm) | (refine Goes.step rfl ?_; intro _ h₁; replace hF := SnkF.rely hF h₁; clear h₁; refine goes_oper_k rfl rfl (by k_ne) fun K hK => ?_; go_simp; refine hK _ _ ⟨g_idle hD fun e he => by have hm := mem_listed he; simp [go_sem, *] at hm, ?_⟩; clear hK K; try w_num) | ((with_reducible refine g_opG ?_); refine Goes.step rfl (fun _ h₁ => ?_); replace hF := SnkF.rely hF h₁; clear h₁; rw [stepG_defer rfl rfl (by k_ne) rfl]; simp only [goes_go]; refine ⟨hD _, ?_⟩; walk_nrm)) | ((first | ((with_reducible refine g_c (k' := ?_) true true hD ?_ ?_); rotate_left; focus exact rfl) | with_reducible refine g_r hD rfl ?_); intro _ h₁; replace hF := SnkF.rely hF h₁; clear h₁)))
 (refine Goes.step rfl (fun _ h₁ => ?_); replace hF := SnkF.rely hF h₁; clear h₁)
 refine goes_oper_k rfl rfl (by decide) (fun K hK => ?_)
 have h1 := hF.last
 go_simp
 refine hK _ _ ⟨gua_read fun e he => ?_, ?_⟩
 · have hm := mem_listed he
   simp [go_sem, h1] at hm
   exact ⟨_, hm, cell_lt h1, .inr (.inr (.inr hF.rd))⟩
 clear hK K h1
 try walk_nrm
 repeat ((first | ((with_reducible refine g_opG ?_); first | (refine g_unw hD rfl rfl ?_; intro _ h₁; replace hF := SnkF.rely hF h₁; clear h₁; walk_nrm) | (refine Goes.step rfl ?_; intro _ h₁; replace hF := SnkF.rely hF h₁; clear h₁; refine goes_oper_k rfl rfl (by k_ne) fun K hK => ?_; go_simp; refine hK _ _ ⟨g_idle hD fun e he => by have hm := mem_listed he; simp [go_sem, *] at hm, ?_⟩; clear hK K; try w_num)) | ((first | ((with_reducible refine g_c (k' := ?_) true true hD ?_ ?_); rotate_left; focus exact rfl) | with_reducible refine g_r hD rfl ?_); intro _ h₁; replace hF := SnkF.rely hF h₁; clear h₁)))
 refine Goes.stop fun w₂ h₂ => ⟨#[ptr Wg, ptr e8, ptr e13, undef, .chan (some c), undef, undef, undef, undef, undef, undef, undef], ⟨rfl, rfl, rfl, rfl, rfl⟩, by rfl, hF.rely h₂⟩
theorem finish_recv {P : Program} {b : Frame} {a : Act} {ops : Array Oper} {i : Nat} {rest : List Nat} {k : List Item} {cs : List Frame} (cc : Array CommCase) (x : Int) (v : Value) (ok : Bool) :
   (G (b.at a (.inRegion ops (i :: rest) :: k)) cs).finishComm P cc (.recv true) x v ok = G (b.at (a.put ((ops[i]?).bind (·.dst)) (.tuple #[v, .bool ok])) (.inRegion ops rest :: k)) cs := by
 simp [Goroutine.finishComm, commResult, G, Frame.finish_at]
theorem finish_send {P : Program} {b : Frame} {a : Act} {ops : Array Oper} {i : Nat} {rest : List Nat} {k : List Item} {cs : List Frame} (cc : Array CommCase) (x : Int) (v : Value) (ok : Bool) :
   (G (b.at a (.inRegion ops (i :: rest) :: k)) cs).finishComm P cc .send x v ok = G (b.at (a.put ((ops[i]?).bind (·.dst)) undef) (.inRegion ops rest :: k)) cs := by
 simp [Goroutine.finishComm, commResult, G, Frame.finish_at]
theorem array12 (T : Array Value) (h : T.size = 12) : ∃ v0 v1 v2 v3 v4 v5 v6 v7 v8 v9 v10 v11, T = #[v0, v1, v2, v3, v4, v5, v6, v7, v8, v9, v10, v11] := by
 obtain ⟨l⟩ := T
 match l, h with
 | [v0, v1, v2, v3, v4, v5, v6, v7, v8, v9, v10, v11], _ => exact ⟨v0, v1, v2, v3, v4, v5, v6, v7, v8, v9, v10, v11, rfl⟩
theorem Goo.on {P : Program} {main : Bool} {R : World → World → Prop} {D : World → World → Array Event → Prop} {Stop : Goroutine → World → Prop} (refl : ∀ a, R a a) {n m : Nat} {g : Goroutine} (h : Goes P main R D (fun g w => Goo P main own R D Stop m g w) n g w) : Goo P main own R D Stop (m + n) g w :=
 (Goo.of_goes h).bind refl fun _ _ x => x
theorem run_append_op {P : Program} {o : Oper} {a : Act} {w w' : World} {v xv v' : Value} (s x : Operand) (t : TypeId)
   (ho : o.op = .call { callee := .builtin .append, args := #[s, x], argTypes := #[t, t] }) (hs : a.eval s = v) (hx : a.eval x = xv)
   (hr : (Builtin.append_ #[t, t] o.type #[v, xv]).run P w = .ok v' w') : (execOp a.eval o).run P w = .ok (.value v') w' := by
 unfold execOp
 simp only [ho, resolve, invoke, builtin, Sem.run_bind, Sem.run_pure, Result.andThen_ok, List.map_toArray, List.map_cons, List.map_nil, hs, hx, hr]
structure SnkV (own : Nat → Prop) (Got : Cells) (Rd : Nat → Prop) (Wg e8 e13 c : Nat) (got : List Value) (v : Value) (w : World) : Prop where
 f : SnkF own Got Rd Wg e8 e13 c got w
 cell : w.cell? ⟨e13, 0, none⟩ = some v
 row : w.ownsRow 0 3 1 v got.length got
 mine : ∀ g, v.ownBlock = some g → own g
theorem SnkV.rely {v : Value} (h : SnkV own Got Rd Wg e8 e13 c got v w) (r : KR 66 Wg own Got Rd w w₁) : SnkV own Got Rd Wg e8 e13 c got v w₁ :=
 ⟨h.f.rely r, (r.cell e13 0 (cell_lt h.cell) (.inr (.inl h.f.gt))).trans h.cell, ownsRow_of h.row fun g hg => r.blk g (h.row.lt g hg).2 fun _ => .inl (h.mine g hg), h.mine⟩
structure SnkX (own : Nat → Prop) (Got : Cells) (Rd : Nat → Prop) (Wg e8 e13 c : Nat) (got : List Value) (v : Value) (bx : Nat) (u : Value) (w : World) : Prop where
 f : SnkV own Got Rd Wg e8 e13 c got v w
 cell : w.cell? ⟨bx, 0, none⟩ = some u
 typ : ∃ cs : Array Value, w.heap[bx]? = some (.cells cs 3 (0, 0))
 mine : own bx
theorem SnkX.rely {v u : Value} {bx : Nat} (h : SnkX own Got Rd Wg e8 e13 c got v bx u w) (r : KR 66 Wg own Got Rd w w₁) : SnkX own Got Rd Wg e8 e13 c got v bx u w₁ :=
 ⟨h.f.rely r, (r.cell bx 0 (cell_lt h.cell) (.inl h.mine)).trans h.cell, (let ⟨_, hc⟩ := h.typ; let ⟨cs', hc', _⟩ := r.form _ _ _ _ hc; ⟨cs', hc'⟩), h.mine⟩
structure SnkY (own : Nat → Prop) (Got : Cells) (Rd : Nat → Prop) (Wg e8 e13 c : Nat) (got : List Value) (v : Value) (w : World) : Prop where
 live : WgLive 66 Wg w
 rd : Rd e8
 gt : Got e13 0
 last : w.cell? ⟨e8, 0, none⟩ = some (.chan (some c))
 lastc : ∃ cs : Array Value, w.heap[e8]? = some (.cells cs 75 (0, 0))
 outc : ∃ cs : Array Value, w.heap[e13]? = some (.cells cs 22 (0, 0))
 outs : ∃ v₀, w.cell? ⟨e13, 0, none⟩ = some v₀
 row : w.ownsRow 0 3 1 v got.length got
 mine : ∀ g, v.ownBlock = some g → own g
 ints : ∀ x ∈ got, ∃ n, x = .int .i64 n
theorem SnkY.rely {v : Value} (h : SnkY own Got Rd Wg e8 e13 c got v w) (r : KR 66 Wg own Got Rd w w₁) : SnkY own Got Rd Wg e8 e13 c got v w₁ := by
 obtain ⟨cs, hc⟩ := h.outc
 obtain ⟨cs', hc', _⟩ := r.form _ _ _ _ hc
 obtain ⟨ds, hd⟩ := h.lastc
 obtain ⟨ds', hd', _⟩ := r.form _ _ _ _ hd
 obtain ⟨v₀, h0⟩ := h.outs
 exact ⟨r.live h.live, h.rd, h.gt, (r.cell e8 0 (cell_lt h.last) (.inr (.inr h.rd))).trans h.last, ⟨ds', hd'⟩, ⟨cs', hc'⟩, ⟨v₀, (r.cell e13 0 (cell_lt h0) (.inr (.inl h.gt))).trans h0⟩,
   ownsRow_of h.row fun g hg => r.blk g (h.row.lt g hg).2 fun _ => .inl (h.mine g hg), h.mine, h.ints⟩
theorem row_typ {v : Value} {n : Nat} {xs : List Value} (h : w.ownsRow 0 3 1 v n xs) {g : Nat} (hg : v.ownBlock = some g) : ∃ cs : Array Value, w.heap[g]? = some (.cells cs 3 (0, 0)) := by
 rcases h.2 with ⟨rfl, _⟩ | ⟨g', cap, cur, rfl, _, h2, _⟩
 · cases hg
 · cases hg; exact ⟨cur, h2⟩
theorem SnkY.store {v : Value} (h : SnkY own Got Rd Wg e8 e13 c got v w) : SnkF own Got Rd Wg e8 e13 c got (w.setCell ⟨e13, 0, none⟩ v) := by
 obtain ⟨cs, hc⟩ := h.outc
 obtain ⟨ds, hd⟩ := h.lastc
 obtain ⟨v₀, h0⟩ := h.outs
 have ne : ∀ b, b ≠ e13 → (w.setCell ⟨e13, 0, none⟩ v).heap[b]? = w.heap[b]? := fun b hb => setCell_ne hb
 have at' : (w.setCell ⟨e13, 0, none⟩ v).heap[e13]? = some (.cells (cs.setIfInBounds 0 v) 22 (0, 0)) := by
   unfold World.setCell
   simp [Array.getElem?_modify, hc]
 have h8 : e8 ≠ e13 := fun e => by rw [e, hc] at hd; cases hd
 have hW : Wg ≠ e13 := fun e => by
   obtain ⟨st, sm, hl⟩ := h.live
   have : w.heap[Wg]? = some (Go.ConcR.wgBlock 66 st sm) := hl
   rw [e, hc] at this; cases this
 have hlen : 0 < cs.size := by
   simp only [World.cell?, hc] at h0
   cases hh : cs[0]? with
   | none => simp [hh] at h0
   | some x => exact (Array.getElem?_eq_some_iff.1 hh).1
 refine ⟨?_, h.rd, h.gt, ?_, ⟨ds, (ne e8 h8).trans hd⟩, ⟨_, at'⟩, ⟨v, ?_, ownsRow_of h.row fun g hg => ne g fun e => ?_, h.mine⟩, h.ints⟩
 · obtain ⟨st, sm, hl⟩ := h.live
   exact ⟨st, sm, hl.of_block (ne Wg hW)⟩
 · rw [cell?_eq (ne e8 h8)]; exact h.last
 · simp [World.cell?, at', hlen]
 · obtain ⟨cs', hc'⟩ := row_typ h.row hg
   rw [e, hc] at hc'; cases hc'
theorem rel_new {ty : TypeId} {Wg : Nat} {Keep : Cells} {w w' : World} (hsz : w.heap.size ≤ w'.heap.size) (hold : ∀ b, b < w.heap.size → w'.heap[b]? = w.heap[b]?) (hos : w'.os = w.os) (hout : w'.output = w.output) (ht : w'.tape = w.tape) : Rel ty Wg Keep w w' :=
 ⟨hsz, fun b hb _ => hold b hb, fun b o hb _ => cell?_eq (hold b hb) o, fun b c _ _ h => ⟨c, (hold b (Array.getElem?_eq_some_iff.1 h).1).trans h, rfl⟩, fun ⟨st, sm, hl⟩ => ⟨st, sm, hl.of_block (hold Wg (Array.getElem?_eq_some_iff.1 hl).1)⟩, hos, hout, ht⟩
theorem SnkX.appended {v v' : Value} {bx : Nat} {n : Int} (h : SnkX own Got Rd Wg e8 e13 c got v bx (.int .i64 n) w) (hgr : w.grownBy w₁ v.ownBlock) (hrow : w₁.ownsRow 0 3 1 v' (got.length + 1) (got ++ [.int .i64 n])) (hown : ∀ g, v'.ownBlock = some g → own g) :
   SnkY own Got Rd Wg e8 e13 c (got ++ [.int .i64 n]) v' w₁ := by
 have hf := h.f.f
 obtain ⟨cs, hc⟩ := hf.outc
 obtain ⟨ds, hd⟩ := hf.lastc
 obtain ⟨st, sm, hl⟩ := hf.live
 have hl' : w.heap[Wg]? = some (Go.ConcR.wgBlock 66 st sm) := hl
 have ne : ∀ b x, w.heap[b]? = some x → (∀ cs : Array Value, x ≠ Obj.cells cs 3 (0, 0)) → w₁.heap[b]? = w.heap[b]? := fun b x hx hn => hgr.block b (Array.getElem?_eq_some_iff.1 hx).1 fun e => by
   obtain ⟨cs', hc'⟩ := row_typ h.f.row e.symm
   rw [hx] at hc'
   exact hn cs' (Option.some.inj hc')
 have n8 := ne e8 _ hd (fun cs e => by cases e)
 have n13 := ne e13 _ hc (fun cs e => by cases e)
 have nW := ne Wg _ hl' (fun cs e => by cases e)
 exact ⟨⟨st, sm, hl.of_block nW⟩, hf.rd, hf.gt, (cell?_eq n8 0).trans hf.last, ⟨ds, n8.trans hd⟩, ⟨cs, n13.trans hc⟩, ⟨v, (cell?_eq n13 0).trans h.f.cell⟩, by simpa using hrow, hown, fun x hx => by
   rcases List.mem_append.1 hx with y | y
   · exact hf.ints x y
   · exact ⟨n, by simpa using y⟩⟩
theorem frozen_of {b : Nat} {cs : Array Value} {t : TypeId} (h : w.heap[b]? = some (.cells cs t (0, 0))) (o : Nat) : w.frozen? ⟨b, o, none⟩ = false := by simp [World.frozen?, h]
@[go_sem] theorem ev_store_slice (P : Program) (w : World) (es : Array Event) (a : Addr) (m : Go.Mode) (b : Option Addr) (l c : Nat) : (store a (.slice b l c) m).events P w es = storedEv P w es a (.slice b l c) m := events_store P w es a _ m rfl
theorem oneT22 : OneT Try.prog 22 3 := by
 have h0 : (Try.prog.info? 3).isSome = true := by kernel_rfl
 have h1 : ((Try.prog.info? 3).get h0).zero.isSome = true := by kernel_rfl
 exact ⟨Try.underlying22, (Try.prog.info? 3).get h0, ((Try.prog.info? 3).get h0).zero.get h1, by simp, by simp, by kernel_rfl, by kernel_rfl, of_decide_eq_true (by kernel_rfl)⟩
theorem wg_typ (h : WgLive 66 Wg w) {b : Nat} {cs : Array Value} {t : TypeId} (hb : w.heap[b]? = some (.cells cs t (0, 0))) (ht : t ≠ 66) : b ≠ Wg := fun e => by
 obtain ⟨st, sm, hl⟩ := h
 have hl' : w.heap[Wg]? = some (Go.ConcR.wgBlock 66 st sm) := hl
 rw [e, hl'] at hb
 simp only [Go.ConcR.wgBlock, Option.some.injEq, Obj.cells.injEq] at hb
 exact ht hb.2.1.symm
theorem KR.refl' (w : World) : KR 66 Wg own Got Rd w w := Rel.refl w
set_option maxRecDepth 100000 in
theorem sink_got {Stop : Goroutine → World → Prop} {cc : Array CommCase} {T : Array Value} (hT : SnkT Wg e8 e13 c T) {n : Int} (hn : got.length + 1 ≤ 1000000) (hF : SnkF own Got Rd Wg e8 e13 c got w)
   (hS : ∀ T w, SnkT Wg e8 e13 c T → SnkF own Got Rd Wg e8 e13 c (got ++ [.int .i64 n]) w → Stop (sinkAt Wg T) w) :
   Goo Try.prog false own (KR 66 Wg own Got Rd) (KD Wg own Got Rd) Stop 60 ((sinkAt Wg T).finishComm Try.prog cc (.recv true) 0 (.int .i64 n) true) w := by
 have hD : ∀ w, KD Wg own Got Rd w w #[] := fun w => Gua.idle w
 obtain ⟨hs, t0, t1, t2, t4⟩ := hT
 obtain ⟨v0, v1, v2, v3, v4, v5, v6, v7, v8, v9, v10, v11, rfl⟩ := array12 T hs
 simp only [List.getElem?_toArray, List.getElem?_cons_zero, List.getElem?_cons_succ, Option.some.injEq] at t0 t1 t2 t4
 subst t0 t1 t2 t4
 clear hs
 simp only [sinkAt, atRecv, lp36, lpOf, body36, Try.f36, Option.getD_some]
 rw [finish_recv]
 refine Goo.on (KR.refl') (n := 30) (m := 30) ?_
 walk_nrm
 repeat ((first | ((with_reducible refine g_opG ?_); first | (refine g_unw hD rfl rfl ?_; intro _ h₁; replace hF := SnkF.rely hF h₁; clear h₁; walk_nrm) | (refine Goes.step rfl ?_; intro _ h₁; replace hF := SnkF.rely hF h₁; clear h₁; refine goes_oper_k rfl rfl (by k_ne) fun K hK => ?_; go_simp; refine hK _ _ ⟨g_idle hD fun e he => by have hm := mem_listed he; simp [go_sem, *] at hm, ?_⟩; clear hK K; try w_num)) | ((first | ((with_reducible refine g_c (k' := ?_) true true hD ?_ ?_); rotate_left; focus exact rfl) | with_reducible refine g_r hD rfl ?_); intro _ h₁; replace hF := SnkF.rely hF h₁; clear h₁)))
 (refine Goes.step rfl (fun _ h₁ => ?_); replace hF := SnkF.rely hF h₁; clear h₁)
 refine goes_oper_k rfl rfl (by decide) (fun K hK => ?_)
 obtain ⟨v, hv, hrow, hown⟩ := hF.out
 go_simp
 refine hK _ _ ⟨gua_read fun e he => ?_, ?_⟩
 · have hm := mem_listed he
   simp [go_sem, hv] at hm
   exact ⟨_, hm, cell_lt hv, .inr (.inr (.inl hF.gt))⟩
 clear hK K
 replace hF : SnkV own Got Rd Wg e8 e13 c got v _ := ⟨hF, hv, hrow, hown⟩
 clear hv hrow hown
 try walk_nrm
 (refine Goes.step rfl (fun _ h₁ => ?_); replace hF := SnkV.rely hF h₁; clear h₁; refine goes_oper_k rfl rfl (by k_ne) (fun K hK => ?_); go_simp; refine hK _ _ ⟨?_, ?_⟩; (focus (refine g_idle hD ?_; intro e he; have hm := mem_listed he; simp [go_sem, *] at hm; done)); clear hK K; try w_num)
 refine Goes.stop fun w₁ h₁ => ?_
 replace hF := hF.rely h₁
 clear h₁
 refine Goo.step rfl fun w₂ h₂ => ?_
 replace hF := hF.rely h₂
 clear h₂
 refine goes_oper_k rfl rfl (by decide) (fun K hK => ?_)
 go_simp
 refine hK _ _ ⟨gua_but (S := fun _ => False) (fun _ h => h.elim) (by simp) (fun b hb _ => heap_alloc_old _ _ b hb) (fun _ _ h => h.elim) rfl rfl rfl (fun e he => ?_), fun hnew => ?_⟩
 · have hm := mem_listed he
   simp [go_sem] at hm
 clear hK K
 have hbx : own w₂.heap.size := hnew _ (Nat.le_refl _) (by simp)
 have hax : ∀ b, b < w₂.heap.size → (w₂.alloc (Obj.cells #[Value.int .i64 n] 3)).heap[b]? = w₂.heap[b]? := fun b hb => heap_alloc_old _ _ b hb
 have hnx := heap_alloc_new w₂ (Obj.cells #[Value.int .i64 n] 3)
 replace hF : SnkX own Got Rd Wg e8 e13 c got v w₂.heap.size (.int .i64 n) (w₂.alloc (Obj.cells #[Value.int .i64 n] 3)) :=
   ⟨hF.rely (rel_new (by simp) hax rfl rfl rfl), by unfold World.cell?; rw [hnx]; rfl, ⟨_, hnx⟩, hbx⟩
 clear hax hnx hbx hnew
 generalize hbxx : w₂.heap.size = bx at hF ⊢
 clear hbxx
 try walk_nrm
 refine Goo.step rfl fun w₃ h₃ => ?_
 replace hF := hF.rely h₃
 clear h₃
 obtain ⟨ds, hds⟩ := hF.typ
 obtain ⟨v', w', hr, hrow', hgr, hb', hgua⟩ := append1 (P := Try.prog) (said := false) (Wg := Wg) (Writ := writK own Got) (Read := keepK own Got Rd) (ty := 22) oneT22 (cx := 1) hF.f.row hF.cell rfl hn
   (fun g hg => ⟨(let ⟨_, hcs⟩ := row_typ hF.f.row hg; wg_typ hF.f.f.live hcs (by decide)), fun _ => .inl (hF.f.mine g hg)⟩) ⟨wg_typ hF.f.f.live hds (by decide), fun _ => .inl (.inl hF.mine)⟩
 rw [stepG_value rfl rfl (by decide) (run_append_op _ _ 22 rfl rfl rfl hr)]
 simp only [goes_go]
 refine ⟨?_, fun hnew => ?_⟩
 · unfold listed
   rw [events_append_op _ _ 22 rfl rfl rfl]
   exact hgua _
 replace hF := hF.appended hgr hrow' (fun g hg => (hb' g hg).elim (hF.f.mine g) fun h => hnew g h.1 h.2)
 clear hgua hr hgr hb' hnew hds ds w₃
 rcases hrow'.2 with ⟨_, h0⟩ | ⟨gx, cap, cur, hv', _⟩
 · omega
 subst hv'
 clear hrow'
 walk_nrm
 refine Goo.mono (Goo.of_goes (n := 20) ?_) (by omega)
 (refine Goes.step rfl (fun _ h₁ => ?_); replace hF := SnkY.rely hF h₁; clear h₁)
 refine goes_oper_k rfl rfl (by decide) (fun K hK => ?_)
 obtain ⟨v₀, h0⟩ := hF.outs
 obtain ⟨cs, hcs⟩ := hF.outc
 have hfz := frozen_of hcs 0
 go_simp
 try (unfold stored; go_simp)
 refine hK _ _ ⟨gua_write rfl hcs (.inr hF.gt) fun e he => ?_, ?_⟩
 · have hm := mem_listed he
   simp [go_sem, storedEv, h0, hfz] at hm
   exact hm
 clear hK K hfz
 replace hF := hF.store
 clear h0 hcs cs v₀
 try walk_nrm
 repeat ((first | ((with_reducible refine g_opG ?_); first | (refine g_unw hD rfl rfl ?_; intro _ h₁; replace hF := SnkF.rely hF h₁; clear h₁; walk_nrm) | (refine Goes.step rfl ?_; intro _ h₁; replace hF := SnkF.rely hF h₁; clear h₁; refine goes_oper_k rfl rfl (by k_ne) fun K hK => ?_; go_simp; refine hK _ _ ⟨g_idle hD fun e he => by have hm := mem_listed he; simp [go_sem, *] at hm, ?_⟩; clear hK K; try w_num)) | ((first | ((with_reducible refine g_c (k' := ?_) true true hD ?_ ?_); rotate_left; focus exact rfl) | with_reducible refine g_r hD rfl ?_); intro _ h₁; replace hF := SnkF.rely hF h₁; clear h₁)))
 exact Goes.stop fun w₂ h₂ => hS _ _ ⟨rfl, rfl, rfl, rfl, rfl⟩ (hF.rely h₂)
end
end Go.Proofs.Ytblpmdolclalnaa
namespace Go.Proofs.Ytblpmdolclalnaa
open Go.Conc
theorem array64 (T : Array Value) (h : T.size = 64) : ∃ v0 v1 v2 v3 v4 v5 v6 v7 v8 v9 v10 v11 v12 v13 v14 v15 v16 v17 v18 v19 v20 v21 v22 v23 v24 v25 v26 v27 v28 v29 v30 v31 v32 v33 v34 v35 v36 v37 v38 v39 v40 v41 v42 v43 v44 v45 v46 v47 v48 v49 v50 v51 v52 v53 v54 v55 v56 v57 v58 v59 v60 v61 v62 v63, T = #[v0, v1, v2, v3, v4, v5, v6, v7, v8, v9, v10, v11, v12, v13, v14, v15, v16, v17, v18, v19, v20, v21, v22, v23, v24, v25, v26, v27, v28, v29, v30, v31, v32, v33, v34, v35, v36, v37, v38, v39, v40, v41, v42, v43, v44, v45, v46, v47, v48, v49, v50, v51, v52, v53, v54, v55, v56, v57, v58, v59, v60, v61, v62, v63] := by
 obtain ⟨l⟩ := T
 simp only [List.size_toArray] at h
 rcases l with _ | ⟨v0, l⟩
 · simp at h
 rcases l with _ | ⟨v1, l⟩
 · simp at h
 rcases l with _ | ⟨v2, l⟩
 · simp at h
 rcases l with _ | ⟨v3, l⟩
 · simp at h
 rcases l with _ | ⟨v4, l⟩
 · simp at h
 rcases l with _ | ⟨v5, l⟩
 · simp at h
 rcases l with _ | ⟨v6, l⟩
 · simp at h
 rcases l with _ | ⟨v7, l⟩
 · simp at h
 rcases l with _ | ⟨v8, l⟩
 · simp at h
 rcases l with _ | ⟨v9, l⟩
 · simp at h
 rcases l with _ | ⟨v10, l⟩
 · simp at h
 rcases l with _ | ⟨v11, l⟩
 · simp at h
 rcases l with _ | ⟨v12, l⟩
 · simp at h
 rcases l with _ | ⟨v13, l⟩
 · simp at h
 rcases l with _ | ⟨v14, l⟩
 · simp at h
 rcases l with _ | ⟨v15, l⟩
 · simp at h
 rcases l with _ | ⟨v16, l⟩
 · simp at h
 rcases l with _ | ⟨v17, l⟩
 · simp at h
 rcases l with _ | ⟨v18, l⟩
 · simp at h
 rcases l with _ | ⟨v19, l⟩
 · simp at h
 rcases l with _ | ⟨v20, l⟩
 · simp at h
 rcases l with _ | ⟨v21, l⟩
 · simp at h
 rcases l with _ | ⟨v22, l⟩
 · simp at h
 rcases l with _ | ⟨v23, l⟩
 · simp at h
 rcases l with _ | ⟨v24, l⟩
 · simp at h
 rcases l with _ | ⟨v25, l⟩
 · simp at h
 rcases l with _ | ⟨v26, l⟩
 · simp at h
 rcases l with _ | ⟨v27, l⟩
 · simp at h
 rcases l with _ | ⟨v28, l⟩
 · simp at h
 rcases l with _ | ⟨v29, l⟩
 · simp at h
 rcases l with _ | ⟨v30, l⟩
 · simp at h
 rcases l with _ | ⟨v31, l⟩
 · simp at h
 rcases l with _ | ⟨v32, l⟩
 · simp at h
 rcases l with _ | ⟨v33, l⟩
 · simp at h
 rcases l with _ | ⟨v34, l⟩
 · simp at h
 rcases l with _ | ⟨v35, l⟩
 · simp at h
 rcases l with _ | ⟨v36, l⟩
 · simp at h
 rcases l with _ | ⟨v37, l⟩
 · simp at h
 rcases l with _ | ⟨v38, l⟩
 · simp at h
 rcases l with _ | ⟨v39, l⟩
 · simp at h
 rcases l with _ | ⟨v40, l⟩
 · simp at h
 rcases l with _ | ⟨v41, l⟩
 · simp at h
 rcases l with _ | ⟨v42, l⟩
 · simp at h
 rcases l with _ | ⟨v43, l⟩
 · simp at h
 rcases l with _ | ⟨v44, l⟩
 · simp at h
 rcases l with _ | ⟨v45, l⟩
 · simp at h
 rcases l with _ | ⟨v46, l⟩
 · simp at h
 rcases l with _ | ⟨v47, l⟩
 · simp at h
 rcases l with _ | ⟨v48, l⟩
 · simp at h
 rcases l with _ | ⟨v49, l⟩
 · simp at h
 rcases l with _ | ⟨v50, l⟩
 · simp at h
 rcases l with _ | ⟨v51, l⟩
 · simp at h
 rcases l with _ | ⟨v52, l⟩
 · simp at h
 rcases l with _ | ⟨v53, l⟩
 · simp at h
 rcases l with _ | ⟨v54, l⟩
 · simp at h
 rcases l with _ | ⟨v55, l⟩
 · simp at h
 rcases l with _ | ⟨v56, l⟩
 · simp at h
 rcases l with _ | ⟨v57, l⟩
 · simp at h
 rcases l with _ | ⟨v58, l⟩
 · simp at h
 rcases l with _ | ⟨v59, l⟩
 · simp at h
 rcases l with _ | ⟨v60, l⟩
 · simp at h
 rcases l with _ | ⟨v61, l⟩
 · simp at h
 rcases l with _ | ⟨v62, l⟩
 · simp at h
 rcases l with _ | ⟨v63, l⟩
 · simp at h
 rcases l with _ | ⟨v64, l⟩
 · exact ⟨v0, v1, v2, v3, v4, v5, v6, v7, v8, v9, v10, v11, v12, v13, v14, v15, v16, v17, v18, v19, v20, v21, v22, v23, v24, v25, v26, v27, v28, v29, v30, v31, v32, v33, v34, v35, v36, v37, v38, v39, v40, v41, v42, v43, v44, v45, v46, v47, v48, v49, v50, v51, v52, v53, v54, v55, v56, v57, v58, v59, v60, v61, v62, v63, rfl⟩
 · simp at h
end Go.Proofs.Ytblpmdolclalnaa
