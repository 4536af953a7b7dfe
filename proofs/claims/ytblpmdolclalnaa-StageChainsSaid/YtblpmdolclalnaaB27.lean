/- Goroutine 0 alone: the pieces of awake's walk, from call to call. Made by gen_lag.py. -/
import Derived.Test.YtblpmdolclalnaaB24
import Derived.Test.YtblpmdolclalnaaB26
namespace Go.Proofs.Ytblpmdolclalnaa
open Go.Conc Go.RowKit Go.Conc.Lib Go.ConcR.Gen Go.ConcN.Gen

noncomputable def body10 : Code := Try.f10.body.getD .skip
noncomputable def tl10 : Nat → Code | 0 => body10 | n + 1 => cS (tl10 n)
section
variable {Shun : Nat → Prop} {w : World} {b₀ : Frame} {a₀ : Act} {ops₀ : Array Oper} {i₀ : Nat} {rest₀ : List Nat} {k₀ : List Item} {cs : List Frame} {kb kl g1 g2 : Nat} {v1 v2 : Value} {fa fb : Option Addr} {ca cb na nb : Nat} {b1 b2 : Bool}
set_option maxRecDepth 100000 in
set_option maxHeartbeats 8000000 in
theorem aw0 {Stop : Goroutine → World → Prop}  {F0 : World → Prop} (hF : F0 w) (s0 : Steady F0)
    (hgo : ∀ T w, F0 w → T.size = 49 → Stop (G ((base 12).at ⟨#[.int .u8 1, undef, undef, undef], []⟩ [.code body12]) ((base 10).at ⟨T, []⟩ (.inRegion (cO (cF (tl10 1))) [0, 1, 2, 3, 4, 5, 6, 7, 8] :: [.code (tl10 2)]) :: cs)) w) :
    Goes Try.prog true AtRel (SD Shun) Stop 60 (G ((base 10).at ⟨#[undef, undef, undef, undef, undef, undef, undef, undef, undef, undef, undef, undef, undef, undef, undef, undef, undef, undef, undef, undef, undef, undef, undef, undef, undef, undef, undef, undef, undef, undef, undef, undef, undef, undef, undef, undef, undef, undef, undef, undef, undef, undef, undef, undef, undef, undef, undef, undef, undef], []⟩ [.code body10]) cs) w := by
  have hD : ∀ w, SD Shun w w #[] := sd_idle
  have rl : ∀ {w w₁ : World}, F0 w → AtRel w w₁ → F0 w₁ := fun h r => s0.rel h r
  replace hgo := Hd.mk hgo
  simp only [tl10, body10, cO, cS, cF, Try.f10, Option.getD_some, body12, Try.f12] at hgo ⊢
  try walk_nrm
  repeat ((first | ((with_reducible refine g_opG ?_); (first | ((with_reducible refine g_unw hD (o := ?_) ?_ ?_ (fun _ h₁ => ?_)); rotate_left; (focus exact rfl); (focus exact rfl); replace hF := rl hF h₁; clear h₁; walk_nrm) | (refine Goes.step rfl (fun _ h₁ => ?_); replace hF := rl hF h₁; clear h₁; refine goes_oper_k rfl rfl (by k_ne) (fun K hK => ?_); go_simp; refine hK _ _ ⟨?_, ?_⟩; (focus (refine g_idle hD ?_; intro e he; have hm := mem_listed he; simp [go_sem, *] at hm; done)); clear hK K; try w_num))) | ((with_reducible first | refine g_regE hD ?_ | refine g_seq hD ?_ | refine g_skip hD ?_ | refine g_block hD ?_ | refine g_inBlock hD ?_ | refine g_inLoop hD ?_ | refine g_loop hD ?_ | refine g_ret hD ?_ | refine g_end hD ?_); intro _ h₁; replace hF := rl hF h₁; clear h₁) | ((with_reducible refine g_reg hD (fun _ h₁ => ?_)); replace hF := rl hF h₁; clear h₁; simp only [regN]) | ((with_reducible refine g_exit hD (k' := ?_) ?_ (fun _ h₁ => ?_)); rotate_left; (focus exact rfl); replace hF := rl hF h₁; clear h₁) | ((first | ((with_reducible refine g_ct hD ?_ ?_); (focus exact rfl)) | ((with_reducible refine g_cf hD ?_ ?_); (focus exact rfl))); intro _ h₁; replace hF := rl hF h₁; clear h₁)))
  ((with_reducible refine g_opG ?_); refine Goes.step rfl (fun _ h₁ => ?_); replace hF := rl hF h₁; clear h₁; refine goes_call rfl rfl (by k_ne) rfl Try.func12 rfl rfl ⟨by exact (g_idle hD (fun e he => by simp at he)), ?_⟩; walk_nrmf Try.f12)
  exact Goes.stop fun w₃ h₃ => hgo.out _ _ (rl hF h₃) rfl

set_option maxRecDepth 100000 in
set_option maxHeartbeats 8000000 in
theorem aw1 {Stop : Goroutine → World → Prop}  {F0 : World → Prop} {F1 : Nat → World → Prop} (hF : F0 w) (s0 : Steady F0) (al1 : ∀ w, F0 w → F1 w.heap.size (w.alloc (.cells #[.int .i64 1, .int .i64 2, .int .i64 3] 3))) (s1 : ∀ g1, Steady (F1 g1)) {T : Array Value} (hs : T.size = 49)
    (hgo : ∀ g1 T w, (F1 g1) w → T.size = 49 → T[8]? = some (fnV kb) → Stop (G ((base 13).at ⟨#[.slice (some ⟨g1, 0, none⟩) 3 3, undef, undef, undef], []⟩ [.code body13]) ((base 10).at ⟨T, []⟩ (.inRegion (cO (cF (tl10 1))) [2, 3, 4, 5, 6, 7, 8] :: [.code (tl10 2)]) :: cs)) w) :
    Goes Try.prog true AtRel (SD Shun) Stop 60 (G ((base 10).at ⟨T.setIfInBounds 8 (fnV kb), []⟩ (.inRegion (cO (cF (tl10 1))) [1, 2, 3, 4, 5, 6, 7, 8] :: [.code (tl10 2)])) cs) w := by
  have hD : ∀ w, SD Shun w w #[] := sd_idle
  have rl : ∀ {w w₁ : World}, F0 w → AtRel w w₁ → F0 w₁ := fun h r => s0.rel h r
  replace hgo := Hd.mk hgo
  replace al1 := Hd.mk al1
  replace s1 := Hd.mk s1
  obtain ⟨v0, v1, v2, v3, v4, v5, v6, v7, v8, v9, v10, v11, v12, v13, v14, v15, v16, v17, v18, v19, v20, v21, v22, v23, v24, v25, v26, v27, v28, v29, v30, v31, v32, v33, v34, v35, v36, v37, v38, v39, v40, v41, v42, v43, v44, v45, v46, v47, v48, rfl⟩ := array49 T hs
  clear hs
  simp only [tl10, body10, cO, cS, cF, Try.f10, Option.getD_some, body13, Try.f13] at hgo ⊢
  try walk_nrm
  repeat ((first | ((with_reducible refine g_opG ?_); (first | ((with_reducible refine g_unw hD (o := ?_) ?_ ?_ (fun _ h₁ => ?_)); rotate_left; (focus exact rfl); (focus exact rfl); replace hF := rl hF h₁; clear h₁; walk_nrm) | (refine Goes.step rfl (fun _ h₁ => ?_); replace hF := rl hF h₁; clear h₁; refine goes_oper_k rfl rfl (by k_ne) (fun K hK => ?_); go_simp; refine hK _ _ ⟨?_, ?_⟩; (focus (refine g_idle hD ?_; intro e he; have hm := mem_listed he; simp [go_sem, *] at hm; done)); clear hK K; try w_num))) | ((with_reducible first | refine g_regE hD ?_ | refine g_seq hD ?_ | refine g_skip hD ?_ | refine g_block hD ?_ | refine g_inBlock hD ?_ | refine g_inLoop hD ?_ | refine g_loop hD ?_ | refine g_ret hD ?_ | refine g_end hD ?_); intro _ h₁; replace hF := rl hF h₁; clear h₁) | ((with_reducible refine g_reg hD (fun _ h₁ => ?_)); replace hF := rl hF h₁; clear h₁; simp only [regN]) | ((with_reducible refine g_exit hD (k' := ?_) ?_ (fun _ h₁ => ?_)); rotate_left; (focus exact rfl); replace hF := rl hF h₁; clear h₁) | ((first | ((with_reducible refine g_ct hD ?_ ?_); (focus exact rfl)) | ((with_reducible refine g_cf hD ?_ ?_); (focus exact rfl))); intro _ h₁; replace hF := rl hF h₁; clear h₁)))
  refine Goes.step rfl fun w₁ h₁ => ?_
  replace hF := rl hF h₁
  clear h₁
  refine goes_oper_k rfl rfl (by decide) (fun K hK => ?_)
  go_simp
  refine hK _ _ ⟨sd_new (by simp) (fun e he => ?_), ?_⟩
  · have hm := mem_listed he
    simp [go_sem] at hm
  clear hK K
  replace hF := al1.out _ hF
  generalize w₁.alloc (.cells #[.int .i64 1, .int .i64 2, .int .i64 3] 3) = w₂ at hF ⊢
  generalize w₁.heap.size = g1 at hF ⊢
  clear w₁ rl
  have rl : ∀ {w w₁ : World}, F1 g1 w → AtRel w w₁ → F1 g1 w₁ := fun h r => (s1.out _ ).rel h r
  try walk_nrm
  repeat ((first | ((with_reducible refine g_opG ?_); (first | ((with_reducible refine g_unw hD (o := ?_) ?_ ?_ (fun _ h₁ => ?_)); rotate_left; (focus exact rfl); (focus exact rfl); replace hF := rl hF h₁; clear h₁; walk_nrm) | (refine Goes.step rfl (fun _ h₁ => ?_); replace hF := rl hF h₁; clear h₁; refine goes_oper_k rfl rfl (by k_ne) (fun K hK => ?_); go_simp; refine hK _ _ ⟨?_, ?_⟩; (focus (refine g_idle hD ?_; intro e he; have hm := mem_listed he; simp [go_sem, *] at hm; done)); clear hK K; try w_num))) | ((with_reducible first | refine g_regE hD ?_ | refine g_seq hD ?_ | refine g_skip hD ?_ | refine g_block hD ?_ | refine g_inBlock hD ?_ | refine g_inLoop hD ?_ | refine g_loop hD ?_ | refine g_ret hD ?_ | refine g_end hD ?_); intro _ h₁; replace hF := rl hF h₁; clear h₁) | ((with_reducible refine g_reg hD (fun _ h₁ => ?_)); replace hF := rl hF h₁; clear h₁; simp only [regN]) | ((with_reducible refine g_exit hD (k' := ?_) ?_ (fun _ h₁ => ?_)); rotate_left; (focus exact rfl); replace hF := rl hF h₁; clear h₁) | ((first | ((with_reducible refine g_ct hD ?_ ?_); (focus exact rfl)) | ((with_reducible refine g_cf hD ?_ ?_); (focus exact rfl))); intro _ h₁; replace hF := rl hF h₁; clear h₁)))
  ((with_reducible refine g_opG ?_); refine Goes.step rfl (fun _ h₁ => ?_); replace hF := rl hF h₁; clear h₁; refine goes_call rfl rfl (by k_ne) rfl Try.func13 rfl rfl ⟨by exact (g_idle hD (fun e he => by simp at he)), ?_⟩; walk_nrmf Try.f13)
  exact Goes.stop fun w₃ h₃ => hgo.out _ _ _ (rl hF h₃) rfl rfl

set_option maxRecDepth 100000 in
set_option maxHeartbeats 8000000 in
theorem aw2 {Stop : Goroutine → World → Prop}  {F0 : World → Prop} (hF : F0 w) (s0 : Steady F0) {T : Array Value} (hs : T.size = 49) (t8 : T[8]? = some (fnV kb))
    (hgo : ∀ T w, F0 w → T.size = 49 → Stop (G ((base 11).at ⟨#[.int .i64 3, fnV kb, seqV kl, undef, undef, undef, undef, undef, undef, undef, undef, undef, undef, undef, undef, undef, undef, undef, undef, undef, undef, undef, undef, undef, undef, undef, undef, undef, undef, undef, undef, undef, undef, undef, undef, undef, undef, undef, undef, undef, undef, undef, undef, undef, undef, undef, undef, undef, undef, undef, undef, undef, undef, undef, undef, undef, undef, undef, undef, undef, undef, undef, undef, undef], []⟩ [.code bodyM]) ((base 10).at ⟨T, []⟩ (.inRegion (cO (cF (tl10 1))) [3, 4, 5, 6, 7, 8] :: [.code (tl10 2)]) :: cs)) w) :
    Goes Try.prog true AtRel (SD Shun) Stop 60 (G ((base 10).at ⟨T.setIfInBounds 10 (seqV kl), []⟩ (.inRegion (cO (cF (tl10 1))) [3, 4, 5, 6, 7, 8] :: [.code (tl10 2)])) cs) w := by
  have hD : ∀ w, SD Shun w w #[] := sd_idle
  have rl : ∀ {w w₁ : World}, F0 w → AtRel w w₁ → F0 w₁ := fun h r => s0.rel h r
  replace hgo := Hd.mk hgo
  obtain ⟨v0, v1, v2, v3, v4, v5, v6, v7, v8, v9, v10, v11, v12, v13, v14, v15, v16, v17, v18, v19, v20, v21, v22, v23, v24, v25, v26, v27, v28, v29, v30, v31, v32, v33, v34, v35, v36, v37, v38, v39, v40, v41, v42, v43, v44, v45, v46, v47, v48, rfl⟩ := array49 T hs
  simp only [List.getElem?_toArray, List.getElem?_cons_zero, List.getElem?_cons_succ, Option.some.injEq] at t8
  subst t8
  clear hs
  simp only [tl10, body10, cO, cS, cF, Try.f10, Option.getD_some, bodyM, Try.f11] at hgo ⊢
  try walk_nrm
  repeat ((first | ((with_reducible refine g_opG ?_); (first | ((with_reducible refine g_unw hD (o := ?_) ?_ ?_ (fun _ h₁ => ?_)); rotate_left; (focus exact rfl); (focus exact rfl); replace hF := rl hF h₁; clear h₁; walk_nrm) | (refine Goes.step rfl (fun _ h₁ => ?_); replace hF := rl hF h₁; clear h₁; refine goes_oper_k rfl rfl (by k_ne) (fun K hK => ?_); go_simp; refine hK _ _ ⟨?_, ?_⟩; (focus (refine g_idle hD ?_; intro e he; have hm := mem_listed he; simp [go_sem, *] at hm; done)); clear hK K; try w_num))) | ((with_reducible first | refine g_regE hD ?_ | refine g_seq hD ?_ | refine g_skip hD ?_ | refine g_block hD ?_ | refine g_inBlock hD ?_ | refine g_inLoop hD ?_ | refine g_loop hD ?_ | refine g_ret hD ?_ | refine g_end hD ?_); intro _ h₁; replace hF := rl hF h₁; clear h₁) | ((with_reducible refine g_reg hD (fun _ h₁ => ?_)); replace hF := rl hF h₁; clear h₁; simp only [regN]) | ((with_reducible refine g_exit hD (k' := ?_) ?_ (fun _ h₁ => ?_)); rotate_left; (focus exact rfl); replace hF := rl hF h₁; clear h₁) | ((first | ((with_reducible refine g_ct hD ?_ ?_); (focus exact rfl)) | ((with_reducible refine g_cf hD ?_ ?_); (focus exact rfl))); intro _ h₁; replace hF := rl hF h₁; clear h₁)))
  ((with_reducible refine g_opG ?_); refine Goes.step rfl (fun _ h₁ => ?_); replace hF := rl hF h₁; clear h₁; refine goes_call rfl rfl (by k_ne) rfl Try.func11 rfl rfl ⟨by exact (g_idle hD (fun e he => by simp at he)), ?_⟩; walk_nrmf Try.f11)
  exact Goes.stop fun w₃ h₃ => hgo.out _ _ (rl hF h₃) rfl

set_option maxRecDepth 100000 in
set_option maxHeartbeats 8000000 in
theorem aw3 {Stop : Goroutine → World → Prop}  {F0 : World → Prop} {F1 : Nat → World → Prop} (hF : F0 w) (s0 : Steady F0) (al1 : ∀ w, F0 w → F1 w.heap.size (w.alloc (.cells #[.int .i64 1, .int .i64 2] 3))) (s1 : ∀ g1, Steady (F1 g1)) {T : Array Value} (hs : T.size = 49)
    (hgo : ∀ g1 T w, (F1 g1) w → T.size = 49 → T[1]? = some (v1) → T[2]? = some (.int .i64 0) → Stop (G ((base 13).at ⟨#[.slice (some ⟨g1, 0, none⟩) 2 2, undef, undef, undef], []⟩ [.code body13]) ((base 10).at ⟨T, []⟩ (.inRegion (cO (cF (tl10 2))) [1, 2, 3, 4, 5, 6, 7, 8, 9, 10] :: [.code (tl10 3)]) :: cs)) w) :
    Goes Try.prog true AtRel (SD Shun) Stop 60 (G ((base 10).at ⟨T.setIfInBounds 11 (.tuple #[v1, .int .i64 0]), []⟩ (.inRegion (cO (cF (tl10 1))) [4, 5, 6, 7, 8] :: [.code (tl10 2)])) cs) w := by
  have hD : ∀ w, SD Shun w w #[] := sd_idle
  have rl : ∀ {w w₁ : World}, F0 w → AtRel w w₁ → F0 w₁ := fun h r => s0.rel h r
  replace hgo := Hd.mk hgo
  replace al1 := Hd.mk al1
  replace s1 := Hd.mk s1
  obtain ⟨v0, v1, v2, v3, v4, v5, v6, v7, v8, v9, v10, v11, v12, v13, v14, v15, v16, v17, v18, v19, v20, v21, v22, v23, v24, v25, v26, v27, v28, v29, v30, v31, v32, v33, v34, v35, v36, v37, v38, v39, v40, v41, v42, v43, v44, v45, v46, v47, v48, rfl⟩ := array49 T hs
  clear hs
  simp only [tl10, body10, cO, cS, cF, Try.f10, Option.getD_some, body13, Try.f13] at hgo ⊢
  try walk_nrm
  repeat ((first | ((with_reducible refine g_opG ?_); (first | ((with_reducible refine g_unw hD (o := ?_) ?_ ?_ (fun _ h₁ => ?_)); rotate_left; (focus exact rfl); (focus exact rfl); replace hF := rl hF h₁; clear h₁; walk_nrm) | (refine Goes.step rfl (fun _ h₁ => ?_); replace hF := rl hF h₁; clear h₁; refine goes_oper_k rfl rfl (by k_ne) (fun K hK => ?_); go_simp; refine hK _ _ ⟨?_, ?_⟩; (focus (refine g_idle hD ?_; intro e he; have hm := mem_listed he; simp [go_sem, *] at hm; done)); clear hK K; try w_num))) | ((with_reducible first | refine g_regE hD ?_ | refine g_seq hD ?_ | refine g_skip hD ?_ | refine g_block hD ?_ | refine g_inBlock hD ?_ | refine g_inLoop hD ?_ | refine g_loop hD ?_ | refine g_ret hD ?_ | refine g_end hD ?_); intro _ h₁; replace hF := rl hF h₁; clear h₁) | ((with_reducible refine g_reg hD (fun _ h₁ => ?_)); replace hF := rl hF h₁; clear h₁; simp only [regN]) | ((with_reducible refine g_exit hD (k' := ?_) ?_ (fun _ h₁ => ?_)); rotate_left; (focus exact rfl); replace hF := rl hF h₁; clear h₁) | ((first | ((with_reducible refine g_ct hD ?_ ?_); (focus exact rfl)) | ((with_reducible refine g_cf hD ?_ ?_); (focus exact rfl))); intro _ h₁; replace hF := rl hF h₁; clear h₁)))
  refine Goes.step rfl fun w₁ h₁ => ?_
  replace hF := rl hF h₁
  clear h₁
  refine goes_oper_k rfl rfl (by decide) (fun K hK => ?_)
  go_simp
  refine hK _ _ ⟨sd_new (by simp) (fun e he => ?_), ?_⟩
  · have hm := mem_listed he
    simp [go_sem] at hm
  clear hK K
  replace hF := al1.out _ hF
  generalize w₁.alloc (.cells #[.int .i64 1, .int .i64 2] 3) = w₂ at hF ⊢
  generalize w₁.heap.size = g1 at hF ⊢
  clear w₁ rl
  have rl : ∀ {w w₁ : World}, F1 g1 w → AtRel w w₁ → F1 g1 w₁ := fun h r => (s1.out _ ).rel h r
  try walk_nrm
  repeat ((first | ((with_reducible refine g_opG ?_); (first | ((with_reducible refine g_unw hD (o := ?_) ?_ ?_ (fun _ h₁ => ?_)); rotate_left; (focus exact rfl); (focus exact rfl); replace hF := rl hF h₁; clear h₁; walk_nrm) | (refine Goes.step rfl (fun _ h₁ => ?_); replace hF := rl hF h₁; clear h₁; refine goes_oper_k rfl rfl (by k_ne) (fun K hK => ?_); go_simp; refine hK _ _ ⟨?_, ?_⟩; (focus (refine g_idle hD ?_; intro e he; have hm := mem_listed he; simp [go_sem, *] at hm; done)); clear hK K; try w_num))) | ((with_reducible first | refine g_regE hD ?_ | refine g_seq hD ?_ | refine g_skip hD ?_ | refine g_block hD ?_ | refine g_inBlock hD ?_ | refine g_inLoop hD ?_ | refine g_loop hD ?_ | refine g_ret hD ?_ | refine g_end hD ?_); intro _ h₁; replace hF := rl hF h₁; clear h₁) | ((with_reducible refine g_reg hD (fun _ h₁ => ?_)); replace hF := rl hF h₁; clear h₁; simp only [regN]) | ((with_reducible refine g_exit hD (k' := ?_) ?_ (fun _ h₁ => ?_)); rotate_left; (focus exact rfl); replace hF := rl hF h₁; clear h₁) | ((first | ((with_reducible refine g_ct hD ?_ ?_); (focus exact rfl)) | ((with_reducible refine g_cf hD ?_ ?_); (focus exact rfl))); intro _ h₁; replace hF := rl hF h₁; clear h₁)))
  ((with_reducible refine g_opG ?_); refine Goes.step rfl (fun _ h₁ => ?_); replace hF := rl hF h₁; clear h₁; refine goes_call rfl rfl (by k_ne) rfl Try.func13 rfl rfl ⟨by exact (g_idle hD (fun e he => by simp at he)), ?_⟩; walk_nrmf Try.f13)
  exact Goes.stop fun w₃ h₃ => hgo.out _ _ _ (rl hF h₃) rfl rfl rfl

set_option maxRecDepth 100000 in
set_option maxHeartbeats 8000000 in
theorem aw4 {Stop : Goroutine → World → Prop}  {F0 : World → Prop} (hF : F0 w) (s0 : Steady F0) {T : Array Value} (hs : T.size = 49) (t1 : T[1]? = some (v1)) (t2 : T[2]? = some (.int .i64 0))
    (hgo : ∀ T w, F0 w → T.size = 49 → T[1]? = some (v1) → T[2]? = some (.int .i64 0) → T[16]? = some (seqV kl) → Stop (G ((base 12).at ⟨#[.int .u8 1, undef, undef, undef], []⟩ [.code body12]) ((base 10).at ⟨T, []⟩ (.inRegion (cO (cF (tl10 2))) [2, 3, 4, 5, 6, 7, 8, 9, 10] :: [.code (tl10 3)]) :: cs)) w) :
    Goes Try.prog true AtRel (SD Shun) Stop 60 (G ((base 10).at ⟨T.setIfInBounds 16 (seqV kl), []⟩ (.inRegion (cO (cF (tl10 2))) [2, 3, 4, 5, 6, 7, 8, 9, 10] :: [.code (tl10 3)])) cs) w := by
  have hD : ∀ w, SD Shun w w #[] := sd_idle
  have rl : ∀ {w w₁ : World}, F0 w → AtRel w w₁ → F0 w₁ := fun h r => s0.rel h r
  replace hgo := Hd.mk hgo
  obtain ⟨v0, v1, v2, v3, v4, v5, v6, v7, v8, v9, v10, v11, v12, v13, v14, v15, v16, v17, v18, v19, v20, v21, v22, v23, v24, v25, v26, v27, v28, v29, v30, v31, v32, v33, v34, v35, v36, v37, v38, v39, v40, v41, v42, v43, v44, v45, v46, v47, v48, rfl⟩ := array49 T hs
  simp only [List.getElem?_toArray, List.getElem?_cons_zero, List.getElem?_cons_succ, Option.some.injEq] at t1 t2
  subst t1 t2
  clear hs
  simp only [tl10, body10, cO, cS, cF, Try.f10, Option.getD_some, body12, Try.f12] at hgo ⊢
  try walk_nrm
  repeat ((first | ((with_reducible refine g_opG ?_); (first | ((with_reducible refine g_unw hD (o := ?_) ?_ ?_ (fun _ h₁ => ?_)); rotate_left; (focus exact rfl); (focus exact rfl); replace hF := rl hF h₁; clear h₁; walk_nrm) | (refine Goes.step rfl (fun _ h₁ => ?_); replace hF := rl hF h₁; clear h₁; refine goes_oper_k rfl rfl (by k_ne) (fun K hK => ?_); go_simp; refine hK _ _ ⟨?_, ?_⟩; (focus (refine g_idle hD ?_; intro e he; have hm := mem_listed he; simp [go_sem, *] at hm; done)); clear hK K; try w_num))) | ((with_reducible first | refine g_regE hD ?_ | refine g_seq hD ?_ | refine g_skip hD ?_ | refine g_block hD ?_ | refine g_inBlock hD ?_ | refine g_inLoop hD ?_ | refine g_loop hD ?_ | refine g_ret hD ?_ | refine g_end hD ?_); intro _ h₁; replace hF := rl hF h₁; clear h₁) | ((with_reducible refine g_reg hD (fun _ h₁ => ?_)); replace hF := rl hF h₁; clear h₁; simp only [regN]) | ((with_reducible refine g_exit hD (k' := ?_) ?_ (fun _ h₁ => ?_)); rotate_left; (focus exact rfl); replace hF := rl hF h₁; clear h₁) | ((first | ((with_reducible refine g_ct hD ?_ ?_); (focus exact rfl)) | ((with_reducible refine g_cf hD ?_ ?_); (focus exact rfl))); intro _ h₁; replace hF := rl hF h₁; clear h₁)))
  ((with_reducible refine g_opG ?_); refine Goes.step rfl (fun _ h₁ => ?_); replace hF := rl hF h₁; clear h₁; refine goes_call rfl rfl (by k_ne) rfl Try.func12 rfl rfl ⟨by exact (g_idle hD (fun e he => by simp at he)), ?_⟩; walk_nrmf Try.f12)
  exact Goes.stop fun w₃ h₃ => hgo.out _ _ (rl hF h₃) rfl rfl rfl rfl

set_option maxRecDepth 100000 in
set_option maxHeartbeats 8000000 in
theorem aw5 {Stop : Goroutine → World → Prop}  {F0 : World → Prop} (hF : F0 w) (s0 : Steady F0) {T : Array Value} (hs : T.size = 49) (t1 : T[1]? = some (v1)) (t2 : T[2]? = some (.int .i64 0)) (t16 : T[16]? = some (seqV kl))
    (hgo : ∀ T w, F0 w → T.size = 49 → T[1]? = some (v1) → T[2]? = some (.int .i64 0) → T[16]? = some (seqV kl) → T[17]? = some (fnV kb) → Stop (G ((base 12).at ⟨#[.int .u8 0, undef, undef, undef], []⟩ [.code body12]) ((base 10).at ⟨T, []⟩ (.inRegion (cO (cF (tl10 2))) [3, 4, 5, 6, 7, 8, 9, 10] :: [.code (tl10 3)]) :: cs)) w) :
    Goes Try.prog true AtRel (SD Shun) Stop 60 (G ((base 10).at ⟨T.setIfInBounds 17 (fnV kb), []⟩ (.inRegion (cO (cF (tl10 2))) [3, 4, 5, 6, 7, 8, 9, 10] :: [.code (tl10 3)])) cs) w := by
  have hD : ∀ w, SD Shun w w #[] := sd_idle
  have rl : ∀ {w w₁ : World}, F0 w → AtRel w w₁ → F0 w₁ := fun h r => s0.rel h r
  replace hgo := Hd.mk hgo
  obtain ⟨v0, v1, v2, v3, v4, v5, v6, v7, v8, v9, v10, v11, v12, v13, v14, v15, v16, v17, v18, v19, v20, v21, v22, v23, v24, v25, v26, v27, v28, v29, v30, v31, v32, v33, v34, v35, v36, v37, v38, v39, v40, v41, v42, v43, v44, v45, v46, v47, v48, rfl⟩ := array49 T hs
  simp only [List.getElem?_toArray, List.getElem?_cons_zero, List.getElem?_cons_succ, Option.some.injEq] at t1 t2 t16
  subst t1 t2 t16
  clear hs
  simp only [tl10, body10, cO, cS, cF, Try.f10, Option.getD_some, body12, Try.f12] at hgo ⊢
  try walk_nrm
  repeat ((first | ((with_reducible refine g_opG ?_); (first | ((with_reducible refine g_unw hD (o := ?_) ?_ ?_ (fun _ h₁ => ?_)); rotate_left; (focus exact rfl); (focus exact rfl); replace hF := rl hF h₁; clear h₁; walk_nrm) | (refine Goes.step rfl (fun _ h₁ => ?_); replace hF := rl hF h₁; clear h₁; refine goes_oper_k rfl rfl (by k_ne) (fun K hK => ?_); go_simp; refine hK _ _ ⟨?_, ?_⟩; (focus (refine g_idle hD ?_; intro e he; have hm := mem_listed he; simp [go_sem, *] at hm; done)); clear hK K; try w_num))) | ((with_reducible first | refine g_regE hD ?_ | refine g_seq hD ?_ | refine g_skip hD ?_ | refine g_block hD ?_ | refine g_inBlock hD ?_ | refine g_inLoop hD ?_ | refine g_loop hD ?_ | refine g_ret hD ?_ | refine g_end hD ?_); intro _ h₁; replace hF := rl hF h₁; clear h₁) | ((with_reducible refine g_reg hD (fun _ h₁ => ?_)); replace hF := rl hF h₁; clear h₁; simp only [regN]) | ((with_reducible refine g_exit hD (k' := ?_) ?_ (fun _ h₁ => ?_)); rotate_left; (focus exact rfl); replace hF := rl hF h₁; clear h₁) | ((first | ((with_reducible refine g_ct hD ?_ ?_); (focus exact rfl)) | ((with_reducible refine g_cf hD ?_ ?_); (focus exact rfl))); intro _ h₁; replace hF := rl hF h₁; clear h₁)))
  ((with_reducible refine g_opG ?_); refine Goes.step rfl (fun _ h₁ => ?_); replace hF := rl hF h₁; clear h₁; refine goes_call rfl rfl (by k_ne) rfl Try.func12 rfl rfl ⟨by exact (g_idle hD (fun e he => by simp at he)), ?_⟩; walk_nrmf Try.f12)
  exact Goes.stop fun w₃ h₃ => hgo.out _ _ (rl hF h₃) rfl rfl rfl rfl rfl

set_option maxRecDepth 100000 in
set_option maxHeartbeats 8000000 in
theorem aw6 {Stop : Goroutine → World → Prop} {kc : Nat} {F0 : World → Prop} {F1 : Nat → World → Prop} (hF : F0 w) (s0 : Steady F0) (al1 : ∀ w, F0 w → F1 w.heap.size (w.alloc (.cells #[.func (.func 30) #[] #[ptr kb], .func (.func 30) #[] #[ptr kc]] 28))) (s1 : ∀ g1, Steady (F1 g1)) {T : Array Value} (hs : T.size = 49) (t1 : T[1]? = some (v1)) (t2 : T[2]? = some (.int .i64 0)) (t16 : T[16]? = some (seqV kl)) (t17 : T[17]? = some (.func (.func 30) #[] #[ptr kb]))
    (hgo : ∀ g1 T w, (F1 g1) w → T.size = 49 → T[1]? = some (v1) → T[2]? = some (.int .i64 0) → Stop (G ((base 16).at ⟨#[seqV kl, .slice (some ⟨g1, 0, none⟩) 2 2, undef, undef, undef, undef, undef, undef, undef, undef, undef, undef, undef, undef, undef, undef, undef, undef, undef, undef, undef, undef, undef, undef, undef, undef, undef, undef, undef, undef, undef, undef, undef, undef, undef, undef, undef, undef, undef, undef, undef, undef, undef, undef, undef, undef, undef, undef, undef], []⟩ [.code body16]) ((base 10).at ⟨T, []⟩ (.inRegion (cO (cF (tl10 2))) [5, 6, 7, 8, 9, 10] :: [.code (tl10 3)]) :: cs)) w) :
    Goes Try.prog true AtRel (SD Shun) Stop 60 (G ((base 10).at ⟨T.setIfInBounds 18 (.func (.func 30) #[] #[ptr kc]), []⟩ (.inRegion (cO (cF (tl10 2))) [4, 5, 6, 7, 8, 9, 10] :: [.code (tl10 3)])) cs) w := by
  have hD : ∀ w, SD Shun w w #[] := sd_idle
  have rl : ∀ {w w₁ : World}, F0 w → AtRel w w₁ → F0 w₁ := fun h r => s0.rel h r
  replace hgo := Hd.mk hgo
  replace al1 := Hd.mk al1
  replace s1 := Hd.mk s1
  obtain ⟨v0, v1, v2, v3, v4, v5, v6, v7, v8, v9, v10, v11, v12, v13, v14, v15, v16, v17, v18, v19, v20, v21, v22, v23, v24, v25, v26, v27, v28, v29, v30, v31, v32, v33, v34, v35, v36, v37, v38, v39, v40, v41, v42, v43, v44, v45, v46, v47, v48, rfl⟩ := array49 T hs
  simp only [List.getElem?_toArray, List.getElem?_cons_zero, List.getElem?_cons_succ, Option.some.injEq] at t1 t2 t16 t17
  subst t1 t2 t16 t17
  clear hs
  simp only [tl10, body10, cO, cS, cF, Try.f10, Option.getD_some, body16, Try.f16] at hgo ⊢
  try walk_nrm
  repeat ((first | ((with_reducible refine g_opG ?_); (first | ((with_reducible refine g_unw hD (o := ?_) ?_ ?_ (fun _ h₁ => ?_)); rotate_left; (focus exact rfl); (focus exact rfl); replace hF := rl hF h₁; clear h₁; walk_nrm) | (refine Goes.step rfl (fun _ h₁ => ?_); replace hF := rl hF h₁; clear h₁; refine goes_oper_k rfl rfl (by k_ne) (fun K hK => ?_); go_simp; refine hK _ _ ⟨?_, ?_⟩; (focus (refine g_idle hD ?_; intro e he; have hm := mem_listed he; simp [go_sem, *] at hm; done)); clear hK K; try w_num))) | ((with_reducible first | refine g_regE hD ?_ | refine g_seq hD ?_ | refine g_skip hD ?_ | refine g_block hD ?_ | refine g_inBlock hD ?_ | refine g_inLoop hD ?_ | refine g_loop hD ?_ | refine g_ret hD ?_ | refine g_end hD ?_); intro _ h₁; replace hF := rl hF h₁; clear h₁) | ((with_reducible refine g_reg hD (fun _ h₁ => ?_)); replace hF := rl hF h₁; clear h₁; simp only [regN]) | ((with_reducible refine g_exit hD (k' := ?_) ?_ (fun _ h₁ => ?_)); rotate_left; (focus exact rfl); replace hF := rl hF h₁; clear h₁) | ((first | ((with_reducible refine g_ct hD ?_ ?_); (focus exact rfl)) | ((with_reducible refine g_cf hD ?_ ?_); (focus exact rfl))); intro _ h₁; replace hF := rl hF h₁; clear h₁)))
  refine Goes.step rfl fun w₁ h₁ => ?_
  replace hF := rl hF h₁
  clear h₁
  refine goes_oper_k rfl rfl (by decide) (fun K hK => ?_)
  go_simp
  refine hK _ _ ⟨sd_new (by simp) (fun e he => ?_), ?_⟩
  · have hm := mem_listed he
    simp [go_sem] at hm
  clear hK K
  replace hF := al1.out _ hF
  generalize w₁.alloc (.cells #[.func (.func 30) #[] #[ptr kb], .func (.func 30) #[] #[ptr kc]] 28) = w₂ at hF ⊢
  generalize w₁.heap.size = g1 at hF ⊢
  clear w₁ rl
  have rl : ∀ {w w₁ : World}, F1 g1 w → AtRel w w₁ → F1 g1 w₁ := fun h r => (s1.out _ ).rel h r
  try walk_nrm
  repeat ((first | ((with_reducible refine g_opG ?_); (first | ((with_reducible refine g_unw hD (o := ?_) ?_ ?_ (fun _ h₁ => ?_)); rotate_left; (focus exact rfl); (focus exact rfl); replace hF := rl hF h₁; clear h₁; walk_nrm) | (refine Goes.step rfl (fun _ h₁ => ?_); replace hF := rl hF h₁; clear h₁; refine goes_oper_k rfl rfl (by k_ne) (fun K hK => ?_); go_simp; refine hK _ _ ⟨?_, ?_⟩; (focus (refine g_idle hD ?_; intro e he; have hm := mem_listed he; simp [go_sem, *] at hm; done)); clear hK K; try w_num))) | ((with_reducible first | refine g_regE hD ?_ | refine g_seq hD ?_ | refine g_skip hD ?_ | refine g_block hD ?_ | refine g_inBlock hD ?_ | refine g_inLoop hD ?_ | refine g_loop hD ?_ | refine g_ret hD ?_ | refine g_end hD ?_); intro _ h₁; replace hF := rl hF h₁; clear h₁) | ((with_reducible refine g_reg hD (fun _ h₁ => ?_)); replace hF := rl hF h₁; clear h₁; simp only [regN]) | ((with_reducible refine g_exit hD (k' := ?_) ?_ (fun _ h₁ => ?_)); rotate_left; (focus exact rfl); replace hF := rl hF h₁; clear h₁) | ((first | ((with_reducible refine g_ct hD ?_ ?_); (focus exact rfl)) | ((with_reducible refine g_cf hD ?_ ?_); (focus exact rfl))); intro _ h₁; replace hF := rl hF h₁; clear h₁)))
  ((with_reducible refine g_opG ?_); refine Goes.step rfl (fun _ h₁ => ?_); replace hF := rl hF h₁; clear h₁; refine goes_call rfl rfl (by k_ne) rfl Try.func16 rfl rfl ⟨by exact (g_idle hD (fun e he => by simp at he)), ?_⟩; walk_nrmf Try.f16)
  exact Goes.stop fun w₃ h₃ => hgo.out _ _ _ (rl hF h₃) rfl rfl rfl

set_option maxRecDepth 100000 in
set_option maxHeartbeats 8000000 in
theorem aw7 {Stop : Goroutine → World → Prop}  {F0 : World → Prop} (hF : F0 w) (s0 : Steady F0) {T : Array Value} (hs : T.size = 49) (t1 : T[1]? = some (v1)) (t2 : T[2]? = some (.int .i64 0))
    (hgo : ∀ T w, F0 w → T.size = 49 → T[1]? = some (v1) → T[2]? = some (.int .i64 0) → T[3]? = some (v2) → T[4]? = some (.int .i64 0) → Stop (G ((base 12).at ⟨#[.int .u8 1, undef, undef, undef], []⟩ [.code body12]) ((base 10).at ⟨T, []⟩ (.inRegion (cO (cF (tl10 3))) [0, 1, 2, 3, 4, 5, 6, 7] :: [.code (tl10 4)]) :: cs)) w) :
    Goes Try.prog true AtRel (SD Shun) Stop 60 (G ((base 10).at ⟨T.setIfInBounds 20 (.tuple #[v2, .int .i64 0]), []⟩ (.inRegion (cO (cF (tl10 2))) [6, 7, 8, 9, 10] :: [.code (tl10 3)])) cs) w := by
  have hD : ∀ w, SD Shun w w #[] := sd_idle
  have rl : ∀ {w w₁ : World}, F0 w → AtRel w w₁ → F0 w₁ := fun h r => s0.rel h r
  replace hgo := Hd.mk hgo
  obtain ⟨v0, v1, v2, v3, v4, v5, v6, v7, v8, v9, v10, v11, v12, v13, v14, v15, v16, v17, v18, v19, v20, v21, v22, v23, v24, v25, v26, v27, v28, v29, v30, v31, v32, v33, v34, v35, v36, v37, v38, v39, v40, v41, v42, v43, v44, v45, v46, v47, v48, rfl⟩ := array49 T hs
  simp only [List.getElem?_toArray, List.getElem?_cons_zero, List.getElem?_cons_succ, Option.some.injEq] at t1 t2
  subst t1 t2
  clear hs
  simp only [tl10, body10, cO, cS, cF, Try.f10, Option.getD_some, body12, Try.f12] at hgo ⊢
  try walk_nrm
  repeat ((first | ((with_reducible refine g_opG ?_); (first | ((with_reducible refine g_unw hD (o := ?_) ?_ ?_ (fun _ h₁ => ?_)); rotate_left; (focus exact rfl); (focus exact rfl); replace hF := rl hF h₁; clear h₁; walk_nrm) | (refine Goes.step rfl (fun _ h₁ => ?_); replace hF := rl hF h₁; clear h₁; refine goes_oper_k rfl rfl (by k_ne) (fun K hK => ?_); go_simp; refine hK _ _ ⟨?_, ?_⟩; (focus (refine g_idle hD ?_; intro e he; have hm := mem_listed he; simp [go_sem, *] at hm; done)); clear hK K; try w_num))) | ((with_reducible first | refine g_regE hD ?_ | refine g_seq hD ?_ | refine g_skip hD ?_ | refine g_block hD ?_ | refine g_inBlock hD ?_ | refine g_inLoop hD ?_ | refine g_loop hD ?_ | refine g_ret hD ?_ | refine g_end hD ?_); intro _ h₁; replace hF := rl hF h₁; clear h₁) | ((with_reducible refine g_reg hD (fun _ h₁ => ?_)); replace hF := rl hF h₁; clear h₁; simp only [regN]) | ((with_reducible refine g_exit hD (k' := ?_) ?_ (fun _ h₁ => ?_)); rotate_left; (focus exact rfl); replace hF := rl hF h₁; clear h₁) | ((first | ((with_reducible refine g_ct hD ?_ ?_); (focus exact rfl)) | ((with_reducible refine g_cf hD ?_ ?_); (focus exact rfl))); intro _ h₁; replace hF := rl hF h₁; clear h₁)))
  ((with_reducible refine g_opG ?_); refine Goes.step rfl (fun _ h₁ => ?_); replace hF := rl hF h₁; clear h₁; refine goes_call rfl rfl (by k_ne) rfl Try.func12 rfl rfl ⟨by exact (g_idle hD (fun e he => by simp at he)), ?_⟩; walk_nrmf Try.f12)
  exact Goes.stop fun w₃ h₃ => hgo.out _ _ (rl hF h₃) rfl rfl rfl rfl rfl

set_option maxRecDepth 100000 in
set_option maxHeartbeats 8000000 in
theorem aw8 {Stop : Goroutine → World → Prop}  {F0 : World → Prop} (hF : F0 w) (s0 : Steady F0) {T : Array Value} (hs : T.size = 49) (t1 : T[1]? = some (v1)) (t2 : T[2]? = some (.int .i64 0)) (t3 : T[3]? = some (v2)) (t4 : T[4]? = some (.int .i64 0))
    (hgo : ∀ T w, F0 w → T.size = 49 → T[1]? = some (v1) → T[2]? = some (.int .i64 0) → T[3]? = some (v2) → T[4]? = some (.int .i64 0) → T[24]? = some (fnV kb) → Stop (G ((base 13).at ⟨#[.slice none 0 0, undef, undef, undef], []⟩ [.code body13]) ((base 10).at ⟨T, []⟩ (.inRegion (cO (cF (tl10 3))) [1, 2, 3, 4, 5, 6, 7] :: [.code (tl10 4)]) :: cs)) w) :
    Goes Try.prog true AtRel (SD Shun) Stop 60 (G ((base 10).at ⟨T.setIfInBounds 24 (fnV kb), []⟩ (.inRegion (cO (cF (tl10 3))) [1, 2, 3, 4, 5, 6, 7] :: [.code (tl10 4)])) cs) w := by
  have hD : ∀ w, SD Shun w w #[] := sd_idle
  have rl : ∀ {w w₁ : World}, F0 w → AtRel w w₁ → F0 w₁ := fun h r => s0.rel h r
  replace hgo := Hd.mk hgo
  obtain ⟨v0, v1, v2, v3, v4, v5, v6, v7, v8, v9, v10, v11, v12, v13, v14, v15, v16, v17, v18, v19, v20, v21, v22, v23, v24, v25, v26, v27, v28, v29, v30, v31, v32, v33, v34, v35, v36, v37, v38, v39, v40, v41, v42, v43, v44, v45, v46, v47, v48, rfl⟩ := array49 T hs
  simp only [List.getElem?_toArray, List.getElem?_cons_zero, List.getElem?_cons_succ, Option.some.injEq] at t1 t2 t3 t4
  subst t1 t2 t3 t4
  clear hs
  simp only [tl10, body10, cO, cS, cF, Try.f10, Option.getD_some, body13, Try.f13] at hgo ⊢
  try walk_nrm
  repeat ((first | ((with_reducible refine g_opG ?_); (first | ((with_reducible refine g_unw hD (o := ?_) ?_ ?_ (fun _ h₁ => ?_)); rotate_left; (focus exact rfl); (focus exact rfl); replace hF := rl hF h₁; clear h₁; walk_nrm) | (refine Goes.step rfl (fun _ h₁ => ?_); replace hF := rl hF h₁; clear h₁; refine goes_oper_k rfl rfl (by k_ne) (fun K hK => ?_); go_simp; refine hK _ _ ⟨?_, ?_⟩; (focus (refine g_idle hD ?_; intro e he; have hm := mem_listed he; simp [go_sem, *] at hm; done)); clear hK K; try w_num))) | ((with_reducible first | refine g_regE hD ?_ | refine g_seq hD ?_ | refine g_skip hD ?_ | refine g_block hD ?_ | refine g_inBlock hD ?_ | refine g_inLoop hD ?_ | refine g_loop hD ?_ | refine g_ret hD ?_ | refine g_end hD ?_); intro _ h₁; replace hF := rl hF h₁; clear h₁) | ((with_reducible refine g_reg hD (fun _ h₁ => ?_)); replace hF := rl hF h₁; clear h₁; simp only [regN]) | ((with_reducible refine g_exit hD (k' := ?_) ?_ (fun _ h₁ => ?_)); rotate_left; (focus exact rfl); replace hF := rl hF h₁; clear h₁) | ((first | ((with_reducible refine g_ct hD ?_ ?_); (focus exact rfl)) | ((with_reducible refine g_cf hD ?_ ?_); (focus exact rfl))); intro _ h₁; replace hF := rl hF h₁; clear h₁)))
  ((with_reducible refine g_opG ?_); refine Goes.step rfl (fun _ h₁ => ?_); replace hF := rl hF h₁; clear h₁; refine goes_call rfl rfl (by k_ne) rfl Try.func13 rfl rfl ⟨by exact (g_idle hD (fun e he => by simp at he)), ?_⟩; walk_nrmf Try.f13)
  exact Goes.stop fun w₃ h₃ => hgo.out _ _ (rl hF h₃) rfl rfl rfl rfl rfl rfl

set_option maxRecDepth 100000 in
set_option maxHeartbeats 8000000 in
theorem aw9 {Stop : Goroutine → World → Prop}  {F0 : World → Prop} (hF : F0 w) (s0 : Steady F0) {T : Array Value} (hs : T.size = 49) (t1 : T[1]? = some (v1)) (t2 : T[2]? = some (.int .i64 0)) (t3 : T[3]? = some (v2)) (t4 : T[4]? = some (.int .i64 0)) (t24 : T[24]? = some (fnV kb))
    (hgo : ∀ T w, F0 w → T.size = 49 → T[1]? = some (v1) → T[2]? = some (.int .i64 0) → T[3]? = some (v2) → T[4]? = some (.int .i64 0) → Stop (G ((base 11).at ⟨#[.int .i64 0, fnV kb, seqV kl, undef, undef, undef, undef, undef, undef, undef, undef, undef, undef, undef, undef, undef, undef, undef, undef, undef, undef, undef, undef, undef, undef, undef, undef, undef, undef, undef, undef, undef, undef, undef, undef, undef, undef, undef, undef, undef, undef, undef, undef, undef, undef, undef, undef, undef, undef, undef, undef, undef, undef, undef, undef, undef, undef, undef, undef, undef, undef, undef, undef, undef], []⟩ [.code bodyM]) ((base 10).at ⟨T, []⟩ (.inRegion (cO (cF (tl10 3))) [2, 3, 4, 5, 6, 7] :: [.code (tl10 4)]) :: cs)) w) :
    Goes Try.prog true AtRel (SD Shun) Stop 60 (G ((base 10).at ⟨T.setIfInBounds 25 (seqV kl), []⟩ (.inRegion (cO (cF (tl10 3))) [2, 3, 4, 5, 6, 7] :: [.code (tl10 4)])) cs) w := by
  have hD : ∀ w, SD Shun w w #[] := sd_idle
  have rl : ∀ {w w₁ : World}, F0 w → AtRel w w₁ → F0 w₁ := fun h r => s0.rel h r
  replace hgo := Hd.mk hgo
  obtain ⟨v0, v1, v2, v3, v4, v5, v6, v7, v8, v9, v10, v11, v12, v13, v14, v15, v16, v17, v18, v19, v20, v21, v22, v23, v24, v25, v26, v27, v28, v29, v30, v31, v32, v33, v34, v35, v36, v37, v38, v39, v40, v41, v42, v43, v44, v45, v46, v47, v48, rfl⟩ := array49 T hs
  simp only [List.getElem?_toArray, List.getElem?_cons_zero, List.getElem?_cons_succ, Option.some.injEq] at t1 t2 t3 t4 t24
  subst t1 t2 t3 t4 t24
  clear hs
  simp only [tl10, body10, cO, cS, cF, Try.f10, Option.getD_some, bodyM, Try.f11] at hgo ⊢
  try walk_nrm
  repeat ((first | ((with_reducible refine g_opG ?_); (first | ((with_reducible refine g_unw hD (o := ?_) ?_ ?_ (fun _ h₁ => ?_)); rotate_left; (focus exact rfl); (focus exact rfl); replace hF := rl hF h₁; clear h₁; walk_nrm) | (refine Goes.step rfl (fun _ h₁ => ?_); replace hF := rl hF h₁; clear h₁; refine goes_oper_k rfl rfl (by k_ne) (fun K hK => ?_); go_simp; refine hK _ _ ⟨?_, ?_⟩; (focus (refine g_idle hD ?_; intro e he; have hm := mem_listed he; simp [go_sem, *] at hm; done)); clear hK K; try w_num))) | ((with_reducible first | refine g_regE hD ?_ | refine g_seq hD ?_ | refine g_skip hD ?_ | refine g_block hD ?_ | refine g_inBlock hD ?_ | refine g_inLoop hD ?_ | refine g_loop hD ?_ | refine g_ret hD ?_ | refine g_end hD ?_); intro _ h₁; replace hF := rl hF h₁; clear h₁) | ((with_reducible refine g_reg hD (fun _ h₁ => ?_)); replace hF := rl hF h₁; clear h₁; simp only [regN]) | ((with_reducible refine g_exit hD (k' := ?_) ?_ (fun _ h₁ => ?_)); rotate_left; (focus exact rfl); replace hF := rl hF h₁; clear h₁) | ((first | ((with_reducible refine g_ct hD ?_ ?_); (focus exact rfl)) | ((with_reducible refine g_cf hD ?_ ?_); (focus exact rfl))); intro _ h₁; replace hF := rl hF h₁; clear h₁)))
  ((with_reducible refine g_opG ?_); refine Goes.step rfl (fun _ h₁ => ?_); replace hF := rl hF h₁; clear h₁; refine goes_call rfl rfl (by k_ne) rfl Try.func11 rfl rfl ⟨by exact (g_idle hD (fun e he => by simp at he)), ?_⟩; walk_nrmf Try.f11)
  exact Goes.stop fun w₃ h₃ => hgo.out _ _ (rl hF h₃) rfl rfl rfl rfl rfl

set_option maxRecDepth 100000 in
set_option maxHeartbeats 8000000 in
theorem aw10 {Stop : Goroutine → World → Prop}  {F0 : World → Prop} {F1 : Nat → World → Prop} (hF : F0 w) (s0 : Steady F0) (al1 : ∀ w, F0 w → F1 w.heap.size (w.alloc (.cells #[.int .i64 2, .int .i64 4, .int .i64 6] 3))) (s1 : ∀ g1, Steady (F1 g1)) {T : Array Value} (hs : T.size = 49) (t1 : T[1]? = some (.slice fa na ca)) (t2 : T[2]? = some (.int .i64 0)) (t3 : T[3]? = some (v2)) (t4 : T[4]? = some (.int .i64 0))
    (hgo : ∀ g1 T w, (F1 g1) w → T.size = 49 → T[3]? = some (v2) → T[4]? = some (.int .i64 0) → T[6]? = some (.int .i64 1) → T[31]? = some (.bool true) → Stop (G ((base 14).at ⟨#[.slice fa na ca, .slice (some ⟨g1, 0, none⟩) 3 3, undef, undef, undef, undef, undef, undef, undef, undef, undef, undef, undef, undef, undef, undef, undef, undef, undef, undef, undef, undef, undef, undef, undef, undef], []⟩ [.code body14]) ((base 10).at ⟨T, []⟩ (.inRegion (cO (cF (tl10 4))) [5, 6, 7, 8, 9, 10, 11, 12, 13, 14, 15, 16, 17, 18, 19, 20] :: [.code (tl10 5)]) :: cs)) w) :
    Goes Try.prog true AtRel (SD Shun) Stop 60 (G ((base 10).at ⟨T.setIfInBounds 26 (.tuple #[.slice none 0 0, .int .i64 1]), []⟩ (.inRegion (cO (cF (tl10 3))) [3, 4, 5, 6, 7] :: [.code (tl10 4)])) cs) w := by
  have hD : ∀ w, SD Shun w w #[] := sd_idle
  have rl : ∀ {w w₁ : World}, F0 w → AtRel w w₁ → F0 w₁ := fun h r => s0.rel h r
  replace hgo := Hd.mk hgo
  replace al1 := Hd.mk al1
  replace s1 := Hd.mk s1
  obtain ⟨v0, v1, v2, v3, v4, v5, v6, v7, v8, v9, v10, v11, v12, v13, v14, v15, v16, v17, v18, v19, v20, v21, v22, v23, v24, v25, v26, v27, v28, v29, v30, v31, v32, v33, v34, v35, v36, v37, v38, v39, v40, v41, v42, v43, v44, v45, v46, v47, v48, rfl⟩ := array49 T hs
  simp only [List.getElem?_toArray, List.getElem?_cons_zero, List.getElem?_cons_succ, Option.some.injEq] at t1 t2 t3 t4
  subst t1 t2 t3 t4
  clear hs
  simp only [tl10, body10, cO, cS, cF, Try.f10, Option.getD_some, body14, Try.f14] at hgo ⊢
  try walk_nrm
  repeat ((first | ((with_reducible refine g_opG ?_); (first | ((with_reducible refine g_unw hD (o := ?_) ?_ ?_ (fun _ h₁ => ?_)); rotate_left; (focus exact rfl); (focus exact rfl); replace hF := rl hF h₁; clear h₁; walk_nrm) | (refine Goes.step rfl (fun _ h₁ => ?_); replace hF := rl hF h₁; clear h₁; refine goes_oper_k rfl rfl (by k_ne) (fun K hK => ?_); go_simp; refine hK _ _ ⟨?_, ?_⟩; (focus (refine g_idle hD ?_; intro e he; have hm := mem_listed he; simp [go_sem, *] at hm; done)); clear hK K; try w_num))) | ((with_reducible first | refine g_regE hD ?_ | refine g_seq hD ?_ | refine g_skip hD ?_ | refine g_block hD ?_ | refine g_inBlock hD ?_ | refine g_inLoop hD ?_ | refine g_loop hD ?_ | refine g_ret hD ?_ | refine g_end hD ?_); intro _ h₁; replace hF := rl hF h₁; clear h₁) | ((with_reducible refine g_reg hD (fun _ h₁ => ?_)); replace hF := rl hF h₁; clear h₁; simp only [regN]) | ((with_reducible refine g_exit hD (k' := ?_) ?_ (fun _ h₁ => ?_)); rotate_left; (focus exact rfl); replace hF := rl hF h₁; clear h₁) | ((first | ((with_reducible refine g_ct hD ?_ ?_); (focus exact rfl)) | ((with_reducible refine g_cf hD ?_ ?_); (focus exact rfl))); intro _ h₁; replace hF := rl hF h₁; clear h₁)))
  refine Goes.step rfl fun w₁ h₁ => ?_
  replace hF := rl hF h₁
  clear h₁
  refine goes_oper_k rfl rfl (by decide) (fun K hK => ?_)
  go_simp
  refine hK _ _ ⟨sd_new (by simp) (fun e he => ?_), ?_⟩
  · have hm := mem_listed he
    simp [go_sem] at hm
  clear hK K
  replace hF := al1.out _ hF
  generalize w₁.alloc (.cells #[.int .i64 2, .int .i64 4, .int .i64 6] 3) = w₂ at hF ⊢
  generalize w₁.heap.size = g1 at hF ⊢
  clear w₁ rl
  have rl : ∀ {w w₁ : World}, F1 g1 w → AtRel w w₁ → F1 g1 w₁ := fun h r => (s1.out _ ).rel h r
  try walk_nrm
  repeat ((first | ((with_reducible refine g_opG ?_); (first | ((with_reducible refine g_unw hD (o := ?_) ?_ ?_ (fun _ h₁ => ?_)); rotate_left; (focus exact rfl); (focus exact rfl); replace hF := rl hF h₁; clear h₁; walk_nrm) | (refine Goes.step rfl (fun _ h₁ => ?_); replace hF := rl hF h₁; clear h₁; refine goes_oper_k rfl rfl (by k_ne) (fun K hK => ?_); go_simp; refine hK _ _ ⟨?_, ?_⟩; (focus (refine g_idle hD ?_; intro e he; have hm := mem_listed he; simp [go_sem, *] at hm; done)); clear hK K; try w_num))) | ((with_reducible first | refine g_regE hD ?_ | refine g_seq hD ?_ | refine g_skip hD ?_ | refine g_block hD ?_ | refine g_inBlock hD ?_ | refine g_inLoop hD ?_ | refine g_loop hD ?_ | refine g_ret hD ?_ | refine g_end hD ?_); intro _ h₁; replace hF := rl hF h₁; clear h₁) | ((with_reducible refine g_reg hD (fun _ h₁ => ?_)); replace hF := rl hF h₁; clear h₁; simp only [regN]) | ((with_reducible refine g_exit hD (k' := ?_) ?_ (fun _ h₁ => ?_)); rotate_left; (focus exact rfl); replace hF := rl hF h₁; clear h₁) | ((first | ((with_reducible refine g_ct hD ?_ ?_); (focus exact rfl)) | ((with_reducible refine g_cf hD ?_ ?_); (focus exact rfl))); intro _ h₁; replace hF := rl hF h₁; clear h₁)))
  ((with_reducible refine g_opG ?_); refine Goes.step rfl (fun _ h₁ => ?_); replace hF := rl hF h₁; clear h₁; refine goes_call rfl rfl (by k_ne) rfl Try.func14 rfl rfl ⟨by exact (g_idle hD (fun e he => by simp at he)), ?_⟩; walk_nrmf Try.f14)
  exact Goes.stop fun w₃ h₃ => hgo.out _ _ _ (rl hF h₃) rfl rfl rfl rfl rfl

set_option maxRecDepth 100000 in
set_option maxHeartbeats 8000000 in
theorem aw11 {Stop : Goroutine → World → Prop}  {F0 : World → Prop} {F1 : Nat → World → Prop} (hF : F0 w) (s0 : Steady F0) (al1 : ∀ w, F0 w → F1 w.heap.size (w.alloc (.cells #[.int .i64 3, .int .i64 5] 3))) (s1 : ∀ g1, Steady (F1 g1)) {T : Array Value} (hs : T.size = 49) (t3 : T[3]? = some (.slice fa na ca)) (t4 : T[4]? = some (.int .i64 0)) (t6 : T[6]? = some (.int .i64 1)) (t31 : T[31]? = some (.bool true))
    (hgo : ∀ g1 T w, (F1 g1) w → T.size = 49 → T[6]? = some (.int .i64 1) → T[40]? = some (.bool true) → Stop (G ((base 14).at ⟨#[.slice fa na ca, .slice (some ⟨g1, 0, none⟩) 2 2, undef, undef, undef, undef, undef, undef, undef, undef, undef, undef, undef, undef, undef, undef, undef, undef, undef, undef, undef, undef, undef, undef, undef, undef], []⟩ [.code body14]) ((base 10).at ⟨T, []⟩ (.inRegion (cO (cF (tl10 4))) [14, 15, 16, 17, 18, 19, 20] :: [.code (tl10 5)]) :: cs)) w) :
    Goes Try.prog true AtRel (SD Shun) Stop 60 (G ((base 10).at ⟨T.setIfInBounds 34 (.bool true), []⟩ (.inRegion (cO (cF (tl10 4))) [6, 7, 8, 9, 10, 11, 12, 13, 14, 15, 16, 17, 18, 19, 20] :: [.code (tl10 5)])) cs) w := by
  have hD : ∀ w, SD Shun w w #[] := sd_idle
  have rl : ∀ {w w₁ : World}, F0 w → AtRel w w₁ → F0 w₁ := fun h r => s0.rel h r
  replace hgo := Hd.mk hgo
  replace al1 := Hd.mk al1
  replace s1 := Hd.mk s1
  obtain ⟨v0, v1, v2, v3, v4, v5, v6, v7, v8, v9, v10, v11, v12, v13, v14, v15, v16, v17, v18, v19, v20, v21, v22, v23, v24, v25, v26, v27, v28, v29, v30, v31, v32, v33, v34, v35, v36, v37, v38, v39, v40, v41, v42, v43, v44, v45, v46, v47, v48, rfl⟩ := array49 T hs
  simp only [List.getElem?_toArray, List.getElem?_cons_zero, List.getElem?_cons_succ, Option.some.injEq] at t3 t4 t6 t31
  subst t3 t4 t6 t31
  clear hs
  simp only [tl10, body10, cO, cS, cF, Try.f10, Option.getD_some, body14, Try.f14] at hgo ⊢
  try walk_nrm
  repeat ((first | ((with_reducible refine g_opG ?_); (first | ((with_reducible refine g_unw hD (o := ?_) ?_ ?_ (fun _ h₁ => ?_)); rotate_left; (focus exact rfl); (focus exact rfl); replace hF := rl hF h₁; clear h₁; walk_nrm) | (refine Goes.step rfl (fun _ h₁ => ?_); replace hF := rl hF h₁; clear h₁; refine goes_oper_k rfl rfl (by k_ne) (fun K hK => ?_); go_simp; refine hK _ _ ⟨?_, ?_⟩; (focus (refine g_idle hD ?_; intro e he; have hm := mem_listed he; simp [go_sem, *] at hm; done)); clear hK K; try w_num))) | ((with_reducible first | refine g_regE hD ?_ | refine g_seq hD ?_ | refine g_skip hD ?_ | refine g_block hD ?_ | refine g_inBlock hD ?_ | refine g_inLoop hD ?_ | refine g_loop hD ?_ | refine g_ret hD ?_ | refine g_end hD ?_); intro _ h₁; replace hF := rl hF h₁; clear h₁) | ((with_reducible refine g_reg hD (fun _ h₁ => ?_)); replace hF := rl hF h₁; clear h₁; simp only [regN]) | ((with_reducible refine g_exit hD (k' := ?_) ?_ (fun _ h₁ => ?_)); rotate_left; (focus exact rfl); replace hF := rl hF h₁; clear h₁) | ((first | ((with_reducible refine g_ct hD ?_ ?_); (focus exact rfl)) | ((with_reducible refine g_cf hD ?_ ?_); (focus exact rfl))); intro _ h₁; replace hF := rl hF h₁; clear h₁)))
  refine Goes.step rfl fun w₁ h₁ => ?_
  replace hF := rl hF h₁
  clear h₁
  refine goes_oper_k rfl rfl (by decide) (fun K hK => ?_)
  go_simp
  refine hK _ _ ⟨sd_new (by simp) (fun e he => ?_), ?_⟩
  · have hm := mem_listed he
    simp [go_sem] at hm
  clear hK K
  replace hF := al1.out _ hF
  generalize w₁.alloc (.cells #[.int .i64 3, .int .i64 5] 3) = w₂ at hF ⊢
  generalize w₁.heap.size = g1 at hF ⊢
  clear w₁ rl
  have rl : ∀ {w w₁ : World}, F1 g1 w → AtRel w w₁ → F1 g1 w₁ := fun h r => (s1.out _ ).rel h r
  try walk_nrm
  repeat ((first | ((with_reducible refine g_opG ?_); (first | ((with_reducible refine g_unw hD (o := ?_) ?_ ?_ (fun _ h₁ => ?_)); rotate_left; (focus exact rfl); (focus exact rfl); replace hF := rl hF h₁; clear h₁; walk_nrm) | (refine Goes.step rfl (fun _ h₁ => ?_); replace hF := rl hF h₁; clear h₁; refine goes_oper_k rfl rfl (by k_ne) (fun K hK => ?_); go_simp; refine hK _ _ ⟨?_, ?_⟩; (focus (refine g_idle hD ?_; intro e he; have hm := mem_listed he; simp [go_sem, *] at hm; done)); clear hK K; try w_num))) | ((with_reducible first | refine g_regE hD ?_ | refine g_seq hD ?_ | refine g_skip hD ?_ | refine g_block hD ?_ | refine g_inBlock hD ?_ | refine g_inLoop hD ?_ | refine g_loop hD ?_ | refine g_ret hD ?_ | refine g_end hD ?_); intro _ h₁; replace hF := rl hF h₁; clear h₁) | ((with_reducible refine g_reg hD (fun _ h₁ => ?_)); replace hF := rl hF h₁; clear h₁; simp only [regN]) | ((with_reducible refine g_exit hD (k' := ?_) ?_ (fun _ h₁ => ?_)); rotate_left; (focus exact rfl); replace hF := rl hF h₁; clear h₁) | ((first | ((with_reducible refine g_ct hD ?_ ?_); (focus exact rfl)) | ((with_reducible refine g_cf hD ?_ ?_); (focus exact rfl))); intro _ h₁; replace hF := rl hF h₁; clear h₁)))
  ((with_reducible refine g_opG ?_); refine Goes.step rfl (fun _ h₁ => ?_); replace hF := rl hF h₁; clear h₁; refine goes_call rfl rfl (by k_ne) rfl Try.func14 rfl rfl ⟨by exact (g_idle hD (fun e he => by simp at he)), ?_⟩; walk_nrmf Try.f14)
  exact Goes.stop fun w₃ h₃ => hgo.out _ _ _ (rl hF h₃) rfl rfl rfl

set_option maxRecDepth 100000 in
set_option maxHeartbeats 8000000 in
theorem aw12 {Stop : Goroutine → World → Prop}  {F0 : World → Prop} (hF : F0 w) (s0 : Steady F0) {T : Array Value} (hs : T.size = 49) (t6 : T[6]? = some (.int .i64 1)) (t40 : T[40]? = some (.bool true))
    (hgo : ∀ w, F0 w → Stop (G (b₀.at (a₀.put ((ops₀[i₀]?).bind (·.dst)) (.bool true)) (.inRegion ops₀ rest₀ :: k₀)) cs) w) :
    Goes Try.prog true AtRel (SD Shun) Stop 60 (G ((base 10).at ⟨T.setIfInBounds 43 (.bool true), []⟩ (.inRegion (cO (cF (tl10 4))) [15, 16, 17, 18, 19, 20] :: [.code (tl10 5)])) (b₀.at a₀ (.inRegion ops₀ (i₀ :: rest₀) :: k₀) :: cs)) w := by
  have hD : ∀ w, SD Shun w w #[] := sd_idle
  have rl : ∀ {w w₁ : World}, F0 w → AtRel w w₁ → F0 w₁ := fun h r => s0.rel h r
  replace hgo := Hd.mk hgo
  obtain ⟨v0, v1, v2, v3, v4, v5, v6, v7, v8, v9, v10, v11, v12, v13, v14, v15, v16, v17, v18, v19, v20, v21, v22, v23, v24, v25, v26, v27, v28, v29, v30, v31, v32, v33, v34, v35, v36, v37, v38, v39, v40, v41, v42, v43, v44, v45, v46, v47, v48, rfl⟩ := array49 T hs
  simp only [List.getElem?_toArray, List.getElem?_cons_zero, List.getElem?_cons_succ, Option.some.injEq] at t6 t40
  subst t6 t40
  clear hs
  simp only [tl10, body10, cO, cS, cF, Try.f10, Option.getD_some] at hgo ⊢
  try walk_nrm
  repeat ((first | ((with_reducible refine g_opG ?_); (first | ((with_reducible refine g_unw hD (o := ?_) ?_ ?_ (fun _ h₁ => ?_)); rotate_left; (focus exact rfl); (focus exact rfl); replace hF := rl hF h₁; clear h₁; walk_nrm) | (refine Goes.step rfl (fun _ h₁ => ?_); replace hF := rl hF h₁; clear h₁; refine goes_oper_k rfl rfl (by k_ne) (fun K hK => ?_); go_simp; refine hK _ _ ⟨?_, ?_⟩; (focus (refine g_idle hD ?_; intro e he; have hm := mem_listed he; simp [go_sem, *] at hm; done)); clear hK K; try w_num))) | ((with_reducible first | refine g_regE hD ?_ | refine g_seq hD ?_ | refine g_skip hD ?_ | refine g_block hD ?_ | refine g_inBlock hD ?_ | refine g_inLoop hD ?_ | refine g_loop hD ?_ | refine g_ret hD ?_ | refine g_end hD ?_); intro _ h₁; replace hF := rl hF h₁; clear h₁) | ((with_reducible refine g_reg hD (fun _ h₁ => ?_)); replace hF := rl hF h₁; clear h₁; simp only [regN]) | ((with_reducible refine g_exit hD (k' := ?_) ?_ (fun _ h₁ => ?_)); rotate_left; (focus exact rfl); replace hF := rl hF h₁; clear h₁) | ((first | ((with_reducible refine g_ct hD ?_ ?_); (focus exact rfl)) | ((with_reducible refine g_cf hD ?_ ?_); (focus exact rfl))); intro _ h₁; replace hF := rl hF h₁; clear h₁)))
  refine Goes.step rfl fun w₃ h₃ => ?_
  replace hF := rl hF h₃
  clear h₃
  refine goes_leave1 rfl rfl Try.func10 rfl ⟨sd_idle _, ?_⟩
  exact Goes.stop fun w₄ h₄ => hgo.out _ (rl hF h₄)

end
end Go.Proofs.Ytblpmdolclalnaa
