/- Goroutine 0 alone: the pieces of awake's walk, from call to call. Made by gen_lag.py. Goroutine 0 alone: a call of awake answers true. Goroutine 0 alone: the pieces of the walk of the law StageMaps, from call to call. Made by gen_lai.py. The law StageMaps: walked whole, goroutine 0 coming to its return with true; the run. An array of 127 values, spelt out. No condition. -/
import Derived.Test.YtblpmdolclalnaaQ10
import Derived.Test.YtblpmdolclalnaaQ23
set_option maxHeartbeats 16000000
set_option linter.unusedSimpArgs false
set_option linter.unusedVariables false
namespace Go.Proofs.Ytblpmdolclalnaa
open Go.Conc Go.RowKit Go.Conc.Lib Go.ConcR.Gen Go.ConcN.Gen
theorem reg21 : ∀ a0 a1 a2 a3 a4 a5 a6 a7 a8 a9 a10 a11 a12 a13 a14 a15 a16 a17 a18 a19 a20 : Oper, List.range #[a0, a1, a2, a3, a4, a5, a6, a7, a8, a9, a10, a11, a12, a13, a14, a15, a16, a17, a18, a19, a20].size = [0, 1, 2, 3, 4, 5, 6, 7, 8, 9, 10, 11, 12, 13, 14, 15, 16, 17, 18, 19, 20] := by
 intros
 rfl
noncomputable def body10 : Code := Try.f10.body.getD .skip
noncomputable def tl10 : Nat → Code | 0 => body10 | n + 1 => cS (tl10 n)
section
variable {Shun : Nat → Prop} {w : World} {b₀ : Frame} {a₀ : Act} {ops₀ : Array Oper} {i₀ : Nat} {rest₀ : List Nat} {k₀ : List Item} {cs : List Frame} {kb kl g1 g2 : Nat} {v1 v2 : Value} {fa fb : Option Addr} {ca cb na nb : Nat} {b1 b2 : Bool}
set_option maxRecDepth 100000 in
theorem aw0 {Stop : Goroutine → World → Prop}  {F0 : World → Prop} (hF : F0 w) (s0 : Steady F0)
   (hgo : ∀ T w, F0 w → T.size = 49 → Stop (G ((base 12).at ⟨#[.int .u8 1, undef, undef, undef], []⟩ [.code body12]) ((base 10).at ⟨T, []⟩ (.inRegion (cO (cF (tl10 1))) [0, 1, 2, 3, 4, 5, 6, 7, 8] :: [.code (tl10 2)]) :: cs)) w) :
   Goes Try.prog true AtRel (SD Shun) Stop 60 (G ((base 10).at ⟨#[undef, undef, undef, undef, undef, undef, undef, undef, undef, undef, undef, undef, undef, undef, undef, undef, undef, undef, undef, undef, undef, undef, undef, undef, undef, undef, undef, undef, undef, undef, undef, undef, undef, undef, undef, undef, undef, undef, undef, undef, undef, undef, undef, undef, undef, undef, undef, undef, undef], []⟩ [.code body10]) cs) w := by
 have hD : ∀ w, SD Shun w w #[] := sd_idle
 have rl : ∀ {w w₁ : World}, F0 w → AtRel w w₁ → F0 w₁ := fun h r => s0.rel h r
 replace hgo := Hd.mk hgo
 simp only [tl10, body10, cO, cS, cF, Try.f10, Option.getD_some, body12, Try.f12] at hgo ⊢
 try walk_nrm
 repeat ((first | ((with_reducible refine g_opG ?_); first | (refine g_unw hD rfl rfl ?_; intro _ h₁; replace hF := rl hF h₁; clear h₁; walk_nrm) | (refine Goes.step rfl ?_; intro _ h₁; replace hF := rl hF h₁; clear h₁; refine goes_oper_k rfl rfl (by k_ne) fun K hK => ?_; go_simp; refine hK _ _ ⟨?_, ?_⟩; (focus (refine g_idle hD ?_; intro e he; have hm := mem_listed he; simp [go_sem, *] at hm; done)); clear hK K; try w_num)) | ((with_reducible refine g_reg hD ?_); intro _ h₁; replace hF := rl hF h₁; clear h₁; simp only [reg21]) | ((first | ((with_reducible refine g_c (k' := ?_) true true hD ?_ ?_); rotate_left; focus exact rfl) | with_reducible refine g_r hD rfl ?_); intro _ h₁; replace hF := rl hF h₁; clear h₁)))
 ((with_reducible refine g_opG ?_); refine Goes.step rfl (fun _ h₁ => ?_); replace hF := rl hF h₁; clear h₁; refine goes_call rfl rfl (by k_ne) rfl Try.func12 rfl rfl ⟨hD _, ?_⟩; walk_nrmf Try.f12)
 exact Goes.stop fun w₃ h₃ => hgo.out _ _ (rl hF h₃) rfl
set_option maxRecDepth 100000 in
theorem aw1 {Stop : Goroutine → World → Prop}  {F0 : World → Prop} {F1 : Nat → World → Prop} (hF : F0 w) (s0 : Steady F0) (al1 : ∀ w, F0 w → F1 w.heap.size (w.alloc (.cells #[.int .i64 1, .int .i64 2, .int .i64 3] 3))) (s1 : ∀ g1, Steady (F1 g1)) {T : Array Value} (hs : T.size = 49)
   (hgo : ∀ g1 T w, (F1 g1) w → T.size = 49 → T[8]? = some (fnV kb) → Stop (G ((base 13).at ⟨#[.slice (some ⟨g1, 0, none⟩) 3 3, undef, undef, undef], []⟩ [.code body13]) ((base 10).at ⟨T, []⟩ (.inRegion (cO (cF (tl10 1))) [2, 3, 4, 5, 6, 7, 8] :: [.code (tl10 2)]) :: cs)) w) :
   Goes Try.prog true AtRel (SD Shun) Stop 60 (G ((base 10).at ⟨T.setIfInBounds 8 (fnV kb), []⟩ (.inRegion (cO (cF (tl10 1))) [1, 2, 3, 4, 5, 6, 7, 8] :: [.code (tl10 2)])) cs) w := by
 have hD : ∀ w, SD Shun w w #[] := sd_idle
 have rl : ∀ {w w₁ : World}, F0 w → AtRel w w₁ → F0 w₁ := fun h r => s0.rel h r
 replace hgo := Hd.mk hgo
 replace al1 := Hd.mk al1
 replace s1 := Hd.mk s1
 obtain ⟨v0, v1, v2, v3, v4, v5, v6, v7, v8, v9, v10, v11, v12, v13, v14, v15, v16, v17, v18, v19, v20, v21, v22, v23, v24, v25, v26, v27, v28, v29, v30, v31, v32, v33, v34, v35, v36, v37, v38, v39, v40, v41, v42, v43, v44, v45, v46, v47, v48, rfl⟩ := array49 T hs
 clear hs
 simp only [tl10, body10, cO, cS, cF, Try.f10, Option.getD_some, body13, Try.f13] at hgo ⊢
 try walk_nrm
 repeat ((first | ((with_reducible refine g_opG ?_); first | (refine g_unw hD rfl rfl ?_; intro _ h₁; replace hF := rl hF h₁; clear h₁; walk_nrm) | (refine Goes.step rfl ?_; intro _ h₁; replace hF := rl hF h₁; clear h₁; refine goes_oper_k rfl rfl (by k_ne) fun K hK => ?_; go_simp; refine hK _ _ ⟨?_, ?_⟩; (focus (refine g_idle hD ?_; intro e he; have hm := mem_listed he; simp [go_sem, *] at hm; done)); clear hK K; try w_num)) | ((with_reducible refine g_reg hD ?_); intro _ h₁; replace hF := rl hF h₁; clear h₁; simp only [reg21]) | ((first | ((with_reducible refine g_c (k' := ?_) true true hD ?_ ?_); rotate_left; focus exact rfl) | with_reducible refine g_r hD rfl ?_); intro _ h₁; replace hF := rl hF h₁; clear h₁)))
 refine Goes.step rfl fun w₁ h₁ => ?_
 replace hF := rl hF h₁
 clear h₁
 refine goes_oper_k rfl rfl (by decide) (fun K hK => ?_)
 go_simp
 refine hK _ _ ⟨sd_new (by simp) (fun e he => ?_), ?_⟩
 · have hm := mem_listed he
   simp [go_sem] at hm
 clear hK K
 replace hF := al1.out _ hF
 generalize w₁.alloc (.cells #[.int .i64 1, .int .i64 2, .int .i64 3] 3) = w₂ at hF ⊢
 generalize w₁.heap.size = g1 at hF ⊢
 clear w₁ rl
 have rl : ∀ {w w₁ : World}, F1 g1 w → AtRel w w₁ → F1 g1 w₁ := fun h r => (s1.out _ ).rel h r
 try walk_nrm
 repeat ((first | ((with_reducible refine g_opG ?_); first | (refine g_unw hD rfl rfl ?_; intro _ h₁; replace hF := rl hF h₁; clear h₁; walk_nrm) | (refine Goes.step rfl ?_; intro _ h₁; replace hF := rl hF h₁; clear h₁; refine goes_oper_k rfl rfl (by k_ne) fun K hK => ?_; go_simp; refine hK _ _ ⟨?_, ?_⟩; (focus (refine g_idle hD ?_; intro e he; have hm := mem_listed he; simp [go_sem, *] at hm; done)); clear hK K; try w_num)) | ((with_reducible refine g_reg hD ?_); intro _ h₁; replace hF := rl hF h₁; clear h₁; simp only [reg21]) | ((first | ((with_reducible refine g_c (k' := ?_) true true hD ?_ ?_); rotate_left; focus exact rfl) | with_reducible refine g_r hD rfl ?_); intro _ h₁; replace hF := rl hF h₁; clear h₁)))
 ((with_reducible refine g_opG ?_); refine Goes.step rfl (fun _ h₁ => ?_); replace hF := rl hF h₁; clear h₁; refine goes_call rfl rfl (by k_ne) rfl Try.func13 rfl rfl ⟨hD _, ?_⟩; walk_nrmf Try.f13)
 exact Goes.stop fun w₃ h₃ => hgo.out _ _ _ (rl hF h₃) rfl rfl
set_option maxRecDepth 100000 in
theorem aw2 {Stop : Goroutine → World → Prop}  {F0 : World → Prop} (hF : F0 w) (s0 : Steady F0) {T : Array Value} (hs : T.size = 49) (t8 : T[8]? = some (fnV kb))
   (hgo : ∀ T w, F0 w → T.size = 49 → Stop (G ((base 11).at ⟨#[.int .i64 3, fnV kb, seqV kl, undef, undef, undef, undef, undef, undef, undef, undef, undef, undef, undef, undef, undef, undef, undef, undef, undef, undef, undef, undef, undef, undef, undef, undef, undef, undef, undef, undef, undef, undef, undef, undef, undef, undef, undef, undef, undef, undef, undef, undef, undef, undef, undef, undef, undef, undef, undef, undef, undef, undef, undef, undef, undef, undef, undef, undef, undef, undef, undef, undef, undef], []⟩ [.code bodyM]) ((base 10).at ⟨T, []⟩ (.inRegion (cO (cF (tl10 1))) [3, 4, 5, 6, 7, 8] :: [.code (tl10 2)]) :: cs)) w) :
   Goes Try.prog true AtRel (SD Shun) Stop 60 (G ((base 10).at ⟨T.setIfInBounds 10 (seqV kl), []⟩ (.inRegion (cO (cF (tl10 1))) [3, 4, 5, 6, 7, 8] :: [.code (tl10 2)])) cs) w := by
 have hD : ∀ w, SD Shun w w #[] := sd_idle
 have rl : ∀ {w w₁ : World}, F0 w → AtRel w w₁ → F0 w₁ := fun h r => s0.rel h r
 replace hgo := Hd.mk hgo
 obtain ⟨v0, v1, v2, v3, v4, v5, v6, v7, v8, v9, v10, v11, v12, v13, v14, v15, v16, v17, v18, v19, v20, v21, v22, v23, v24, v25, v26, v27, v28, v29, v30, v31, v32, v33, v34, v35, v36, v37, v38, v39, v40, v41, v42, v43, v44, v45, v46, v47, v48, rfl⟩ := array49 T hs
 simp only [List.getElem?_toArray, List.getElem?_cons_zero, List.getElem?_cons_succ, Option.some.injEq] at t8
 subst t8
 clear hs
 simp only [tl10, body10, cO, cS, cF, Try.f10, Option.getD_some, bodyM, Try.f11] at hgo ⊢
 try walk_nrm
 repeat ((first | ((with_reducible refine g_opG ?_); first | (refine g_unw hD rfl rfl ?_; intro _ h₁; replace hF := rl hF h₁; clear h₁; walk_nrm) | (refine Goes.step rfl ?_; intro _ h₁; replace hF := rl hF h₁; clear h₁; refine goes_oper_k rfl rfl (by k_ne) fun K hK => ?_; go_simp; refine hK _ _ ⟨?_, ?_⟩; (focus (refine g_idle hD ?_; intro e he; have hm := mem_listed he; simp [go_sem, *] at hm; done)); clear hK K; try w_num)) | ((with_reducible refine g_reg hD ?_); intro _ h₁; replace hF := rl hF h₁; clear h₁; simp only [reg21]) | ((first | ((with_reducible refine g_c (k' := ?_) true true hD ?_ ?_); rotate_left; focus exact rfl) | with_reducible refine g_r hD rfl ?_); intro _ h₁; replace hF := rl hF h₁; clear h₁)))
 ((with_reducible refine g_opG ?_); refine Goes.step rfl (fun _ h₁ => ?_); replace hF := rl hF h₁; clear h₁; refine goes_call rfl rfl (by k_ne) rfl Try.func11 rfl rfl ⟨hD _, ?_⟩; walk_nrmf Try.f11)
 exact Goes.stop fun w₃ h₃ => hgo.out _ _ (rl hF h₃) rfl
set_option maxRecDepth 100000 in
theorem aw3 {Stop : Goroutine → World → Prop}  {F0 : World → Prop} {F1 : Nat → World → Prop} (hF : F0 w) (s0 : Steady F0) (al1 : ∀ w, F0 w → F1 w.heap.size (w.alloc (.cells #[.int .i64 1, .int .i64 2] 3))) (s1 : ∀ g1, Steady (F1 g1)) {T : Array Value} (hs : T.size = 49)
   (hgo : ∀ g1 T w, (F1 g1) w → T.size = 49 → T[1]? = some (v1) → T[2]? = some (.int .i64 0) → Stop (G ((base 13).at ⟨#[.slice (some ⟨g1, 0, none⟩) 2 2, undef, undef, undef], []⟩ [.code body13]) ((base 10).at ⟨T, []⟩ (.inRegion (cO (cF (tl10 2))) [1, 2, 3, 4, 5, 6, 7, 8, 9, 10] :: [.code (tl10 3)]) :: cs)) w) :
   Goes Try.prog true AtRel (SD Shun) Stop 60 (G ((base 10).at ⟨T.setIfInBounds 11 (.tuple #[v1, .int .i64 0]), []⟩ (.inRegion (cO (cF (tl10 1))) [4, 5, 6, 7, 8] :: [.code (tl10 2)])) cs) w := by
 have hD : ∀ w, SD Shun w w #[] := sd_idle
 have rl : ∀ {w w₁ : World}, F0 w → AtRel w w₁ → F0 w₁ := fun h r => s0.rel h r
 replace hgo := Hd.mk hgo
 replace al1 := Hd.mk al1
 replace s1 := Hd.mk s1
 obtain ⟨v0, v1, v2, v3, v4, v5, v6, v7, v8, v9, v10, v11, v12, v13, v14, v15, v16, v17, v18, v19, v20, v21, v22, v23, v24, v25, v26, v27, v28, v29, v30, v31, v32, v33, v34, v35, v36, v37, v38, v39, v40, v41, v42, v43, v44, v45, v46, v47, v48, rfl⟩ := array49 T hs
 clear hs
 simp only [tl10, body10, cO, cS, cF, Try.f10, Option.getD_some, body13, Try.f13] at hgo ⊢
 try walk_nrm
 repeat ((first | ((with_reducible refine g_opG ?_); first | (refine g_unw hD rfl rfl ?_; intro _ h₁; replace hF := rl hF h₁; clear h₁; walk_nrm) | (refine Goes.step rfl ?_; intro _ h₁; replace hF := rl hF h₁; clear h₁; refine goes_oper_k rfl rfl (by k_ne) fun K hK => ?_; go_simp; refine hK _ _ ⟨?_, ?_⟩; (focus (refine g_idle hD ?_; intro e he; have hm := mem_listed he; simp [go_sem, *] at hm; done)); clear hK K; try w_num)) | ((with_reducible refine g_reg hD ?_); intro _ h₁; replace hF := rl hF h₁; clear h₁; simp only [reg21]) | ((first | ((with_reducible refine g_c (k' := ?_) true true hD ?_ ?_); rotate_left; focus exact rfl) | with_reducible refine g_r hD rfl ?_); intro _ h₁; replace hF := rl hF h₁; clear h₁)))
 refine Goes.step rfl fun w₁ h₁ => ?_
 replace hF := rl hF h₁
 clear h₁
 refine goes_oper_k rfl rfl (by decide) (fun K hK => ?_)
 go_simp
 refine hK _ _ ⟨sd_new (by simp) (fun e he => ?_), ?_⟩
 · have hm := mem_listed he
   simp [go_sem] at hm
 clear hK K
 replace hF := al1.out _ hF
 generalize w₁.alloc (.cells #[.int .i64 1, .int .i64 2] 3) = w₂ at hF ⊢
 generalize w₁.heap.size = g1 at hF ⊢
 clear w₁ rl
 have rl : ∀ {w w₁ : World}, F1 g1 w → AtRel w w₁ → F1 g1 w₁ := fun h r => (s1.out _ ).rel h r
 try walk_nrm
 repeat ((first | ((with_reducible refine g_opG ?_); first | (refine g_unw hD rfl rfl ?_; intro _ h₁; replace hF := rl hF h₁; clear h₁; walk_nrm) | (refine Goes.step rfl ?_; intro _ h₁; replace hF := rl hF h₁; clear h₁; refine goes_oper_k rfl rfl (by k_ne) fun K hK => ?_; go_simp; refine hK _ _ ⟨?_, ?_⟩; (focus (refine g_idle hD ?_; intro e he; have hm := mem_listed he; simp [go_sem, *] at hm; done)); clear hK K; try w_num)) | ((with_reducible refine g_reg hD ?_); intro _ h₁; replace hF := rl hF h₁; clear h₁; simp only [reg21]) | ((first | ((with_reducible refine g_c (k' := ?_) true true hD ?_ ?_); rotate_left; focus exact rfl) | with_reducible refine g_r hD rfl ?_); intro _ h₁; replace hF := rl hF h₁; clear h₁)))
 ((with_reducible refine g_opG ?_); refine Goes.step rfl (fun _ h₁ => ?_); replace hF := rl hF h₁; clear h₁; refine goes_call rfl rfl (by k_ne) rfl Try.func13 rfl rfl ⟨hD _, ?_⟩; walk_nrmf Try.f13)
 exact Goes.stop fun w₃ h₃ => hgo.out _ _ _ (rl hF h₃) rfl rfl rfl
set_option maxRecDepth 100000 in
theorem aw4 {Stop : Goroutine → World → Prop}  {F0 : World → Prop} (hF : F0 w) (s0 : Steady F0) {T : Array Value} (hs : T.size = 49) (t1 : T[1]? = some (v1)) (t2 : T[2]? = some (.int .i64 0))
   (hgo : ∀ T w, F0 w → T.size = 49 → T[1]? = some (v1) → T[2]? = some (.int .i64 0) → T[16]? = some (seqV kl) → Stop (G ((base 12).at ⟨#[.int .u8 1, undef, undef, undef], []⟩ [.code body12]) ((base 10).at ⟨T, []⟩ (.inRegion (cO (cF (tl10 2))) [2, 3, 4, 5, 6, 7, 8, 9, 10] :: [.code (tl10 3)]) :: cs)) w) :
   Goes Try.prog true AtRel (SD Shun) Stop 60 (G ((base 10).at ⟨T.setIfInBounds 16 (seqV kl), []⟩ (.inRegion (cO (cF (tl10 2))) [2, 3, 4, 5, 6, 7, 8, 9, 10] :: [.code (tl10 3)])) cs) w := by
 have hD : ∀ w, SD Shun w w #[] := sd_idle
 have rl : ∀ {w w₁ : World}, F0 w → AtRel w w₁ → F0 w₁ := fun h r => s0.rel h r
 replace hgo := Hd.mk hgo
 obtain ⟨v0, v1, v2, v3, v4, v5, v6, v7, v8, v9, v10, v11, v12, v13, v14, v15, v16, v17, v18, v19, v20, v21, v22, v23, v24, v25, v26, v27, v28, v29, v30, v31, v32, v33, v34, v35, v36, v37, v38, v39, v40, v41, v42, v43, v44, v45, v46, v47, v48, rfl⟩ := array49 T hs
 simp only [List.getElem?_toArray, List.getElem?_cons_zero, List.getElem?_cons_succ, Option.some.injEq] at t1 t2
 subst t1 t2
 clear hs
 simp only [tl10, body10, cO, cS, cF, Try.f10, Option.getD_some, body12, Try.f12] at hgo ⊢
 try walk_nrm
 repeat ((first | ((with_reducible refine g_opG ?_); first | (refine g_unw hD rfl rfl ?_; intro _ h₁; replace hF := rl hF h₁; clear h₁; walk_nrm) | (refine Goes.step rfl ?_; intro _ h₁; replace hF := rl hF h₁; clear h₁; refine goes_oper_k rfl rfl (by k_ne) fun K hK => ?_; go_simp; refine hK _ _ ⟨?_, ?_⟩; (focus (refine g_idle hD ?_; intro e he; have hm := mem_listed he; simp [go_sem, *] at hm; done)); clear hK K; try w_num)) | ((with_reducible refine g_reg hD ?_); intro _ h₁; replace hF := rl hF h₁; clear h₁; simp only [reg21]) | ((first | ((with_reducible refine g_c (k' := ?_) true true hD ?_ ?_); rotate_left; focus exact rfl) | with_reducible refine g_r hD rfl ?_); intro _ h₁; replace hF := rl hF h₁; clear h₁)))
 ((with_reducible refine g_opG ?_); refine Goes.step rfl (fun _ h₁ => ?_); replace hF := rl hF h₁; clear h₁; refine goes_call rfl rfl (by k_ne) rfl Try.func12 rfl rfl ⟨hD _, ?_⟩; walk_nrmf Try.f12)
 exact Goes.stop fun w₃ h₃ => hgo.out _ _ (rl hF h₃) rfl rfl rfl rfl
set_option maxRecDepth 100000 in
theorem aw5 {Stop : Goroutine → World → Prop}  {F0 : World → Prop} (hF : F0 w) (s0 : Steady F0) {T : Array Value} (hs : T.size = 49) (t1 : T[1]? = some (v1)) (t2 : T[2]? = some (.int .i64 0)) (t16 : T[16]? = some (seqV kl))
   (hgo : ∀ T w, F0 w → T.size = 49 → T[1]? = some (v1) → T[2]? = some (.int .i64 0) → T[16]? = some (seqV kl) → T[17]? = some (fnV kb) → Stop (G ((base 12).at ⟨#[.int .u8 0, undef, undef, undef], []⟩ [.code body12]) ((base 10).at ⟨T, []⟩ (.inRegion (cO (cF (tl10 2))) [3, 4, 5, 6, 7, 8, 9, 10] :: [.code (tl10 3)]) :: cs)) w) :
   Goes Try.prog true AtRel (SD Shun) Stop 60 (G ((base 10).at ⟨T.setIfInBounds 17 (fnV kb), []⟩ (.inRegion (cO (cF (tl10 2))) [3, 4, 5, 6, 7, 8, 9, 10] :: [.code (tl10 3)])) cs) w := by
 have hD : ∀ w, SD Shun w w #[] := sd_idle
 have rl : ∀ {w w₁ : World}, F0 w → AtRel w w₁ → F0 w₁ := fun h r => s0.rel h r
 replace hgo := Hd.mk hgo
 obtain ⟨v0, v1, v2, v3, v4, v5, v6, v7, v8, v9, v10, v11, v12, v13, v14, v15, v16, v17, v18, v19, v20, v21, v22, v23, v24, v25, v26, v27, v28, v29, v30, v31, v32, v33, v34, v35, v36, v37, v38, v39, v40, v41, v42, v43, v44, v45, v46, v47, v48, rfl⟩ := array49 T hs
 simp only [List.getElem?_toArray, List.getElem?_cons_zero, List.getElem?_cons_succ, Option.some.injEq] at t1 t2 t16
 subst t1 t2 t16
 clear hs
 simp only [tl10, body10, cO, cS, cF, Try.f10, Option.getD_some, body12, Try.f12] at hgo ⊢
 try walk_nrm
 repeat ((first | ((with_reducible refine g_opG ?_); first | (refine g_unw hD rfl rfl ?_; intro _ h₁; replace hF := rl hF h₁; clear h₁; walk_nrm) | (refine Goes.step rfl ?_; intro _ h₁; replace hF := rl hF h₁; clear h₁; refine goes_oper_k rfl rfl (by k_ne) fun K hK => ?_; go_simp; refine hK _ _ ⟨?_, ?_⟩; (focus (refine g_idle hD ?_; intro e he; have hm := mem_listed he; simp [go_sem, *] at hm; done)); clear hK K; try w_num)) | ((with_reducible refine g_reg hD ?_); intro _ h₁; replace hF := rl hF h₁; clear h₁; simp only [reg21]) | ((first | ((with_reducible refine g_c (k' := ?_) true true hD ?_ ?_); rotate_left; focus exact rfl) | with_reducible refine g_r hD rfl ?_); intro _ h₁; replace hF := rl hF h₁; clear h₁)))
 ((with_reducible refine g_opG ?_); refine Goes.step rfl (fun _ h₁ => ?_); replace hF := rl hF h₁; clear h₁; refine goes_call rfl rfl (by k_ne) rfl Try.func12 rfl rfl ⟨hD _, ?_⟩; walk_nrmf Try.f12)
 exact Goes.stop fun w₃ h₃ => hgo.out _ _ (rl hF h₃) rfl rfl rfl rfl rfl
set_option maxRecDepth 100000 in
theorem aw6 {Stop : Goroutine → World → Prop} {kc : Nat} {F0 : World → Prop} {F1 : Nat → World → Prop} (hF : F0 w) (s0 : Steady F0) (al1 : ∀ w, F0 w → F1 w.heap.size (w.alloc (.cells #[.func (.func 30) #[] #[ptr kb], .func (.func 30) #[] #[ptr kc]] 28))) (s1 : ∀ g1, Steady (F1 g1)) {T : Array Value} (hs : T.size = 49) (t1 : T[1]? = some (v1)) (t2 : T[2]? = some (.int .i64 0)) (t16 : T[16]? = some (seqV kl)) (t17 : T[17]? = some (.func (.func 30) #[] #[ptr kb]))
   (hgo : ∀ g1 T w, (F1 g1) w → T.size = 49 → T[1]? = some (v1) → T[2]? = some (.int .i64 0) → Stop (G ((base 16).at ⟨#[seqV kl, .slice (some ⟨g1, 0, none⟩) 2 2, undef, undef, undef, undef, undef, undef, undef, undef, undef, undef, undef, undef, undef, undef, undef, undef, undef, undef, undef, undef, undef, undef, undef, undef, undef, undef, undef, undef, undef, undef, undef, undef, undef, undef, undef, undef, undef, undef, undef, undef, undef, undef, undef, undef, undef, undef, undef], []⟩ [.code body16]) ((base 10).at ⟨T, []⟩ (.inRegion (cO (cF (tl10 2))) [5, 6, 7, 8, 9, 10] :: [.code (tl10 3)]) :: cs)) w) :
   Goes Try.prog true AtRel (SD Shun) Stop 60 (G ((base 10).at ⟨T.setIfInBounds 18 (.func (.func 30) #[] #[ptr kc]), []⟩ (.inRegion (cO (cF (tl10 2))) [4, 5, 6, 7, 8, 9, 10] :: [.code (tl10 3)])) cs) w := by
 have hD : ∀ w, SD Shun w w #[] := sd_idle
 have rl : ∀ {w w₁ : World}, F0 w → AtRel w w₁ → F0 w₁ := fun h r => s0.rel h r
 replace hgo := Hd.mk hgo
 replace al1 := Hd.mk al1
 replace s1 := Hd.mk s1
 obtain ⟨v0, v1, v2, v3, v4, v5, v6, v7, v8, v9, v10, v11, v12, v13, v14, v15, v16, v17, v18, v19, v20, v21, v22, v23, v24, v25, v26, v27, v28, v29, v30, v31, v32, v33, v34, v35, v36, v37, v38, v39, v40, v41, v42, v43, v44, v45, v46, v47, v48, rfl⟩ := array49 T hs
 simp only [List.getElem?_toArray, List.getElem?_cons_zero, List.getElem?_cons_succ, Option.some.injEq] at t1 t2 t16 t17
 subst t1 t2 t16 t17
 clear hs
 simp only [tl10, body10, cO, cS, cF, Try.f10, Option.getD_some, body16, Try.f16] at hgo ⊢
 try walk_nrm
 repeat ((first | ((with_reducible refine g_opG ?_); first | (refine g_unw hD rfl rfl ?_; intro _ h₁; replace hF := rl hF h₁; clear h₁; walk_nrm) | (refine Goes.step rfl ?_; intro _ h₁; replace hF := rl hF h₁; clear h₁; refine goes_oper_k rfl rfl (by k_ne) fun K hK => ?_; go_simp; refine hK _ _ ⟨?_, ?_⟩; (focus (refine g_idle hD ?_; intro e he; have hm := mem_listed he; simp [go_sem, *] at hm; done)); clear hK K; try w_num)) | ((with_reducible refine g_reg hD ?_); intro _ h₁; replace hF := rl hF h₁; clear h₁; simp only [reg21]) | ((first | ((with_reducible refine g_c (k' := ?_) true true hD ?_ ?_); rotate_left; focus exact rfl) | with_reducible refine g_r hD rfl ?_); intro _ h₁; replace hF := rl hF h₁; clear h₁)))
 refine Goes.step rfl fun w₁ h₁ => ?_
 replace hF := rl hF h₁
 clear h₁
 refine goes_oper_k rfl rfl (by decide) (fun K hK => ?_)
 go_simp
 refine hK _ _ ⟨sd_new (by simp) (fun e he => ?_), ?_⟩
 · have hm := mem_listed he
   simp [go_sem] at hm
 clear hK K
 replace hF := al1.out _ hF
 generalize w₁.alloc (.cells #[.func (.func 30) #[] #[ptr kb], .func (.func 30) #[] #[ptr kc]] 28) = w₂ at hF ⊢
 generalize w₁.heap.size = g1 at hF ⊢
 clear w₁ rl
 have rl : ∀ {w w₁ : World}, F1 g1 w → AtRel w w₁ → F1 g1 w₁ := fun h r => (s1.out _ ).rel h r
 try walk_nrm
 repeat ((first | ((with_reducible refine g_opG ?_); first | (refine g_unw hD rfl rfl ?_; intro _ h₁; replace hF := rl hF h₁; clear h₁; walk_nrm) | (refine Goes.step rfl ?_; intro _ h₁; replace hF := rl hF h₁; clear h₁; refine goes_oper_k rfl rfl (by k_ne) fun K hK => ?_; go_simp; refine hK _ _ ⟨?_, ?_⟩; (focus (refine g_idle hD ?_; intro e he; have hm := mem_listed he; simp [go_sem, *] at hm; done)); clear hK K; try w_num)) | ((with_reducible refine g_reg hD ?_); intro _ h₁; replace hF := rl hF h₁; clear h₁; simp only [reg21]) | ((first | ((with_reducible refine g_c (k' := ?_) true true hD ?_ ?_); rotate_left; focus exact rfl) | with_reducible refine g_r hD rfl ?_); intro _ h₁; replace hF := rl hF h₁; clear h₁)))
 ((with_reducible refine g_opG ?_); refine Goes.step rfl (fun _ h₁ => ?_); replace hF := rl hF h₁; clear h₁; refine goes_call rfl rfl (by k_ne) rfl Try.func16 rfl rfl ⟨hD _, ?_⟩; walk_nrmf Try.f16)
 exact Goes.stop fun w₃ h₃ => hgo.out _ _ _ (rl hF h₃) rfl rfl rfl
set_option maxRecDepth 100000 in
theorem aw7 {Stop : Goroutine → World → Prop}  {F0 : World → Prop} (hF : F0 w) (s0 : Steady F0) {T : Array Value} (hs : T.size = 49) (t1 : T[1]? = some (v1)) (t2 : T[2]? = some (.int .i64 0))
   (hgo : ∀ T w, F0 w → T.size = 49 → T[1]? = some (v1) → T[2]? = some (.int .i64 0) → T[3]? = some (v2) → T[4]? = some (.int .i64 0) → Stop (G ((base 12).at ⟨#[.int .u8 1, undef, undef, undef], []⟩ [.code body12]) ((base 10).at ⟨T, []⟩ (.inRegion (cO (cF (tl10 3))) [0, 1, 2, 3, 4, 5, 6, 7] :: [.code (tl10 4)]) :: cs)) w) :
   Goes Try.prog true AtRel (SD Shun) Stop 60 (G ((base 10).at ⟨T.setIfInBounds 20 (.tuple #[v2, .int .i64 0]), []⟩ (.inRegion (cO (cF (tl10 2))) [6, 7, 8, 9, 10] :: [.code (tl10 3)])) cs) w := by
 have hD : ∀ w, SD Shun w w #[] := sd_idle
 have rl : ∀ {w w₁ : World}, F0 w → AtRel w w₁ → F0 w₁ := fun h r => s0.rel h r
 replace hgo := Hd.mk hgo
 obtain ⟨v0, v1, v2, v3, v4, v5, v6, v7, v8, v9, v10, v11, v12, v13, v14, v15, v16, v17, v18, v19, v20, v21, v22, v23, v24, v25, v26, v27, v28, v29, v30, v31, v32, v33, v34, v35, v36, v37, v38, v39, v40, v41, v42, v43, v44, v45, v46, v47, v48, rfl⟩ := array49 T hs
 simp only [List.getElem?_toArray, List.getElem?_cons_zero, List.getElem?_cons_succ, Option.some.injEq] at t1 t2
 subst t1 t2
 clear hs
 simp only [tl10, body10, cO, cS, cF, Try.f10, Option.getD_some, body12, Try.f12] at hgo ⊢
 try walk_nrm
 repeat ((first | ((with_reducible refine g_opG ?_); first | (refine g_unw hD rfl rfl ?_; intro _ h₁; replace hF := rl hF h₁; clear h₁; walk_nrm) | (refine Goes.step rfl ?_; intro _ h₁; replace hF := rl hF h₁; clear h₁; refine goes_oper_k rfl rfl (by k_ne) fun K hK => ?_; go_simp; refine hK _ _ ⟨?_, ?_⟩; (focus (refine g_idle hD ?_; intro e he; have hm := mem_listed he; simp [go_sem, *] at hm; done)); clear hK K; try w_num)) | ((with_reducible refine g_reg hD ?_); intro _ h₁; replace hF := rl hF h₁; clear h₁; simp only [reg21]) | ((first | ((with_reducible refine g_c (k' := ?_) true true hD ?_ ?_); rotate_left; focus exact rfl) | with_reducible refine g_r hD rfl ?_); intro _ h₁; replace hF := rl hF h₁; clear h₁)))
 ((with_reducible refine g_opG ?_); refine Goes.step rfl (fun _ h₁ => ?_); replace hF := rl hF h₁; clear h₁; refine goes_call rfl rfl (by k_ne) rfl Try.func12 rfl rfl ⟨hD _, ?_⟩; walk_nrmf Try.f12)
 exact Goes.stop fun w₃ h₃ => hgo.out _ _ (rl hF h₃) rfl rfl rfl rfl rfl
set_option maxRecDepth 100000 in
theorem aw8 {Stop : Goroutine → World → Prop}  {F0 : World → Prop} (hF : F0 w) (s0 : Steady F0) {T : Array Value} (hs : T.size = 49) (t1 : T[1]? = some (v1)) (t2 : T[2]? = some (.int .i64 0)) (t3 : T[3]? = some (v2)) (t4 : T[4]? = some (.int .i64 0))
   (hgo : ∀ T w, F0 w → T.size = 49 → T[1]? = some (v1) → T[2]? = some (.int .i64 0) → T[3]? = some (v2) → T[4]? = some (.int .i64 0) → T[24]? = some (fnV kb) → Stop (G ((base 13).at ⟨#[.slice none 0 0, undef, undef, undef], []⟩ [.code body13]) ((base 10).at ⟨T, []⟩ (.inRegion (cO (cF (tl10 3))) [1, 2, 3, 4, 5, 6, 7] :: [.code (tl10 4)]) :: cs)) w) :
   Goes Try.prog true AtRel (SD Shun) Stop 60 (G ((base 10).at ⟨T.setIfInBounds 24 (fnV kb), []⟩ (.inRegion (cO (cF (tl10 3))) [1, 2, 3, 4, 5, 6, 7] :: [.code (tl10 4)])) cs) w := by
 have hD : ∀ w, SD Shun w w #[] := sd_idle
 have rl : ∀ {w w₁ : World}, F0 w → AtRel w w₁ → F0 w₁ := fun h r => s0.rel h r
 replace hgo := Hd.mk hgo
 obtain ⟨v0, v1, v2, v3, v4, v5, v6, v7, v8, v9, v10, v11, v12, v13, v14, v15, v16, v17, v18, v19, v20, v21, v22, v23, v24, v25, v26, v27, v28, v29, v30, v31, v32, v33, v34, v35, v36, v37, v38, v39, v40, v41, v42, v43, v44, v45, v46, v47, v48, rfl⟩ := array49 T hs
 simp only [List.getElem?_toArray, List.getElem?_cons_zero, List.getElem?_cons_succ, Option.some.injEq] at t1 t2 t3 t4
 subst t1 t2 t3 t4
 clear hs
 simp only [tl10, body10, cO, cS, cF, Try.f10, Option.getD_some, body13, Try.f13] at hgo ⊢
 try walk_nrm
 repeat ((first | ((with_reducible refine g_opG ?_); first | (refine g_unw hD rfl rfl ?_; intro _ h₁; replace hF := rl hF h₁; clear h₁; walk_nrm) | (refine Goes.step rfl ?_; intro _ h₁; replace hF := rl hF h₁; clear h₁; refine goes_oper_k rfl rfl (by k_ne) fun K hK => ?_; go_simp; refine hK _ _ ⟨?_, ?_⟩; (focus (refine g_idle hD ?_; intro e he; have hm := mem_listed he; simp [go_sem, *] at hm; done)); clear hK K; try w_num)) | ((with_reducible refine g_reg hD ?_); intro _ h₁; replace hF := rl hF h₁; clear h₁; simp only [reg21]) | ((first | ((with_reducible refine g_c (k' := ?_) true true hD ?_ ?_); rotate_left; focus exact rfl) | with_reducible refine g_r hD rfl ?_); intro _ h₁; replace hF := rl hF h₁; clear h₁)))
 ((with_reducible refine g_opG ?_); refine Goes.step rfl (fun _ h₁ => ?_); replace hF := rl hF h₁; clear h₁; refine goes_call rfl rfl (by k_ne) rfl Try.func13 rfl rfl ⟨hD _, ?_⟩; walk_nrmf Try.f13)
 exact Goes.stop fun w₃ h₃ => hgo.out _ _ (rl hF h₃) rfl rfl rfl rfl rfl rfl
set_option maxRecDepth 100000 in
theorem aw9 {Stop : Goroutine → World → Prop}  {F0 : World → Prop} (hF : F0 w) (s0 : Steady F0) {T : Array Value} (hs : T.size = 49) (t1 : T[1]? = some (v1)) (t2 : T[2]? = some (.int .i64 0)) (t3 : T[3]? = some (v2)) (t4 : T[4]? = some (.int .i64 0)) (t24 : T[24]? = some (fnV kb))
   (hgo : ∀ T w, F0 w → T.size = 49 → T[1]? = some (v1) → T[2]? = some (.int .i64 0) → T[3]? = some (v2) → T[4]? = some (.int .i64 0) → Stop (G ((base 11).at ⟨#[.int .i64 0, fnV kb, seqV kl, undef, undef, undef, undef, undef, undef, undef, undef, undef, undef, undef, undef, undef, undef, undef, undef, undef, undef, undef, undef, undef, undef, undef, undef, undef, undef, undef, undef, undef, undef, undef, undef, undef, undef, undef, undef, undef, undef, undef, undef, undef, undef, undef, undef, undef, undef, undef, undef, undef, undef, undef, undef, undef, undef, undef, undef, undef, undef, undef, undef, undef], []⟩ [.code bodyM]) ((base 10).at ⟨T, []⟩ (.inRegion (cO (cF (tl10 3))) [2, 3, 4, 5, 6, 7] :: [.code (tl10 4)]) :: cs)) w) :
   Goes Try.prog true AtRel (SD Shun) Stop 60 (G ((base 10).at ⟨T.setIfInBounds 25 (seqV kl), []⟩ (.inRegion (cO (cF (tl10 3))) [2, 3, 4, 5, 6, 7] :: [.code (tl10 4)])) cs) w := by
 have hD : ∀ w, SD Shun w w #[] := sd_idle
 have rl : ∀ {w w₁ : World}, F0 w → AtRel w w₁ → F0 w₁ := fun h r => s0.rel h r
 replace hgo := Hd.mk hgo
 obtain ⟨v0, v1, v2, v3, v4, v5, v6, v7, v8, v9, v10, v11, v12, v13, v14, v15, v16, v17, v18, v19, v20, v21, v22, v23, v24, v25, v26, v27, v28, v29, v30, v31, v32, v33, v34, v35, v36, v37, v38, v39, v40, v41, v42, v43, v44, v45, v46, v47, v48, rfl⟩ := array49 T hs
 simp only [List.getElem?_toArray, List.getElem?_cons_zero, List.getElem?_cons_succ, Option.some.injEq] at t1 t2 t3 t4 t24
 subst t1 t2 t3 t4 t24
 clear hs
 simp only [tl10, body10, cO, cS, cF, Try.f10, Option.getD_some, bodyM, Try.f11] at hgo ⊢
 try walk_nrm
 repeat ((first | ((with_reducible refine g_opG ?_); first | (refine g_unw hD rfl rfl ?_; intro _ h₁; replace hF := rl hF h₁; clear h₁; walk_nrm) | (refine Goes.step rfl ?_; intro _ h₁; replace hF := rl hF h₁; clear h₁; refine goes_oper_k rfl rfl (by k_ne) fun K hK => ?_; go_simp; refine hK _ _ ⟨?_, ?_⟩; (focus (refine g_idle hD ?_; intro e he; have hm := mem_listed he; simp [go_sem, *] at hm; done)); clear hK K; try w_num)) | ((with_reducible refine g_reg hD ?_); intro _ h₁; replace hF := rl hF h₁; clear h₁; simp only [reg21]) | ((first | ((with_reducible refine g_c (k' := ?_) true true hD ?_ ?_); rotate_left; focus exact rfl) | with_reducible refine g_r hD rfl ?_); intro _ h₁; replace hF := rl hF h₁; clear h₁)))
 ((with_reducible refine g_opG ?_); refine Goes.step rfl (fun _ h₁ => ?_); replace hF := rl hF h₁; clear h₁; refine goes_call rfl rfl (by k_ne) rfl Try.func11 rfl rfl ⟨hD _, ?_⟩; walk_nrmf Try.f11)
 exact Goes.stop fun w₃ h₃ => hgo.out _ _ (rl hF h₃) rfl rfl rfl rfl rfl
set_option maxRecDepth 100000 in
theorem aw10 {Stop : Goroutine → World → Prop}  {F0 : World → Prop} {F1 : Nat → World → Prop} (hF : F0 w) (s0 : Steady F0) (al1 : ∀ w, F0 w → F1 w.heap.size (w.alloc (.cells #[.int .i64 2, .int .i64 4, .int .i64 6] 3))) (s1 : ∀ g1, Steady (F1 g1)) {T : Array Value} (hs : T.size = 49) (t1 : T[1]? = some (.slice fa na ca)) (t2 : T[2]? = some (.int .i64 0)) (t3 : T[3]? = some (v2)) (t4 : T[4]? = some (.int .i64 0))
   (hgo : ∀ g1 T w, (F1 g1) w → T.size = 49 → T[3]? = some (v2) → T[4]? = some (.int .i64 0) → T[6]? = some (.int .i64 1) → T[31]? = some (.bool true) → Stop (G ((base 14).at ⟨#[.slice fa na ca, .slice (some ⟨g1, 0, none⟩) 3 3, undef, undef, undef, undef, undef, undef, undef, undef, undef, undef, undef, undef, undef, undef, undef, undef, undef, undef, undef, undef, undef, undef, undef, undef], []⟩ [.code body14]) ((base 10).at ⟨T, []⟩ (.inRegion (cO (cF (tl10 4))) [5, 6, 7, 8, 9, 10, 11, 12, 13, 14, 15, 16, 17, 18, 19, 20] :: [.code (tl10 5)]) :: cs)) w) :
   Goes Try.prog true AtRel (SD Shun) Stop 60 (G ((base 10).at ⟨T.setIfInBounds 26 (.tuple #[.slice none 0 0, .int .i64 1]), []⟩ (.inRegion (cO (cF (tl10 3))) [3, 4, 5, 6, 7] :: [.code (tl10 4)])) cs) w := by
 have hD : ∀ w, SD Shun w w #[] := sd_idle
 have rl : ∀ {w w₁ : World}, F0 w → AtRel w w₁ → F0 w₁ := fun h r => s0.rel h r
 replace hgo := Hd.mk hgo
 replace al1 := Hd.mk al1
 replace s1 := Hd.mk s1
 obtain ⟨v0, v1, v2, v3, v4, v5, v6, v7, v8, v9, v10, v11, v12, v13, v14, v15, v16, v17, v18, v19, v20, v21, v22, v23, v24, v25, v26, v27, v28, v29, v30, v31, v32, v33, v34, v35, v36, v37, v38, v39, v40, v41, v42, v43, v44, v45, v46, v47, v48, rfl⟩ := array49 T hs
 simp only [List.getElem?_toArray, List.getElem?_cons_zero, List.getElem?_cons_succ, Option.some.injEq] at t1 t2 t3 t4
 subst t1 t2 t3 t4
 clear hs
 simp only [tl10, body10, cO, cS, cF, Try.f10, Option.getD_some, body14, Try.f14] at hgo ⊢
 try walk_nrm
 repeat ((first | ((with_reducible refine g_opG ?_); first | (refine g_unw hD rfl rfl ?_; intro _ h₁; replace hF := rl hF h₁; clear h₁; walk_nrm) | (refine Goes.step rfl ?_; intro _ h₁; replace hF := rl hF h₁; clear h₁; refine goes_oper_k rfl rfl (by k_ne) fun K hK => ?_; go_simp; refine hK _ _ ⟨?_, ?_⟩; (focus (refine g_idle hD ?_; intro e he; have hm := mem_listed he; simp [go_sem, *] at hm; done)); clear hK K; try w_num)) | ((with_reducible refine g_reg hD ?_); intro _ h₁; replace hF := rl hF h₁; clear h₁; simp only [reg21]) | ((first | ((with_reducible refine g_c (k' := ?_) true true hD ?_ ?_); rotate_left; focus exact rfl) | with_reducible refine g_r hD rfl ?_); intro _ h₁; replace hF := rl hF h₁; clear h₁)))
 refine Goes.step rfl fun w₁ h₁ => ?_
 replace hF := rl hF h₁
 clear h₁
 refine goes_oper_k rfl rfl (by decide) (fun K hK => ?_)
 go_simp
 refine hK _ _ ⟨sd_new (by simp) (fun e he => ?_), ?_⟩
 · have hm := mem_listed he
   simp [go_sem] at hm
 clear hK K
 replace hF := al1.out _ hF
 generalize w₁.alloc (.cells #[.int .i64 2, .int .i64 4, .int .i64 6] 3) = w₂ at hF ⊢
 generalize w₁.heap.size = g1 at hF ⊢
 clear w₁ rl
 have rl : ∀ {w w₁ : World}, F1 g1 w → AtRel w w₁ → F1 g1 w₁ := fun h r => (s1.out _ ).rel h r
 try walk_nrm
 repeat ((first | ((with_reducible refine g_opG ?_); first | (refine g_unw hD rfl rfl ?_; intro _ h₁; replace hF := rl hF h₁; clear h₁; walk_nrm) | (refine Goes.step rfl ?_; intro _ h₁; replace hF := rl hF h₁; clear h₁; refine goes_oper_k rfl rfl (by k_ne) fun K hK => ?_; go_simp; refine hK _ _ ⟨?_, ?_⟩; (focus (refine g_idle hD ?_; intro e he; have hm := mem_listed he; simp [go_sem, *] at hm; done)); clear hK K; try w_num)) | ((with_reducible refine g_reg hD ?_); intro _ h₁; replace hF := rl hF h₁; clear h₁; simp only [reg21]) | ((first | ((with_reducible refine g_c (k' := ?_) true true hD ?_ ?_); rotate_left; focus exact rfl) | with_reducible refine g_r hD rfl ?_); intro _ h₁; replace hF := rl hF h₁; clear h₁)))
 ((with_reducible refine g_opG ?_); refine Goes.step rfl (fun _ h₁ => ?_); replace hF := rl hF h₁; clear h₁; refine goes_call rfl rfl (by k_ne) rfl Try.func14 rfl rfl ⟨hD _, ?_⟩; walk_nrmf Try.f14)
 exact Goes.stop fun w₃ h₃ => hgo.out _ _ _ (rl hF h₃) rfl rfl rfl rfl rfl
set_option maxRecDepth 100000 in
theorem aw11 {Stop : Goroutine → World → Prop}  {F0 : World → Prop} {F1 : Nat → World → Prop} (hF : F0 w) (s0 : Steady F0) (al1 : ∀ w, F0 w → F1 w.heap.size (w.alloc (.cells #[.int .i64 3, .int .i64 5] 3))) (s1 : ∀ g1, Steady (F1 g1)) {T : Array Value} (hs : T.size = 49) (t3 : T[3]? = some (.slice fa na ca)) (t4 : T[4]? = some (.int .i64 0)) (t6 : T[6]? = some (.int .i64 1)) (t31 : T[31]? = some (.bool true))
   (hgo : ∀ g1 T w, (F1 g1) w → T.size = 49 → T[6]? = some (.int .i64 1) → T[40]? = some (.bool true) → Stop (G ((base 14).at ⟨#[.slice fa na ca, .slice (some ⟨g1, 0, none⟩) 2 2, undef, undef, undef, undef, undef, undef, undef, undef, undef, undef, undef, undef, undef, undef, undef, undef, undef, undef, undef, undef, undef, undef, undef, undef], []⟩ [.code body14]) ((base 10).at ⟨T, []⟩ (.inRegion (cO (cF (tl10 4))) [14, 15, 16, 17, 18, 19, 20] :: [.code (tl10 5)]) :: cs)) w) :
   Goes Try.prog true AtRel (SD Shun) Stop 60 (G ((base 10).at ⟨T.setIfInBounds 34 (.bool true), []⟩ (.inRegion (cO (cF (tl10 4))) [6, 7, 8, 9, 10, 11, 12, 13, 14, 15, 16, 17, 18, 19, 20] :: [.code (tl10 5)])) cs) w := by
 have hD : ∀ w, SD Shun w w #[] := sd_idle
 have rl : ∀ {w w₁ : World}, F0 w → AtRel w w₁ → F0 w₁ := fun h r => s0.rel h r
 replace hgo := Hd.mk hgo
 replace al1 := Hd.mk al1
 replace s1 := Hd.mk s1
 obtain ⟨v0, v1, v2, v3, v4, v5, v6, v7, v8, v9, v10, v11, v12, v13, v14, v15, v16, v17, v18, v19, v20, v21, v22, v23, v24, v25, v26, v27, v28, v29, v30, v31, v32, v33, v34, v35, v36, v37, v38, v39, v40, v41, v42, v43, v44, v45, v46, v47, v48, rfl⟩ := array49 T hs
 simp only [List.getElem?_toArray, List.getElem?_cons_zero, List.getElem?_cons_succ, Option.some.injEq] at t3 t4 t6 t31
 subst t3 t4 t6 t31
 clear hs
 simp only [tl10, body10, cO, cS, cF, Try.f10, Option.getD_some, body14, Try.f14] at hgo ⊢
 try walk_nrm
 repeat ((first | ((with_reducible refine g_opG ?_); first | (refine g_unw hD rfl rfl ?_; intro _ h₁; replace hF := rl hF h₁; clear h₁; walk_nrm) | (refine Goes.step rfl ?_; intro _ h₁; replace hF := rl hF h₁; clear h₁; refine goes_oper_k rfl rfl (by k_ne) fun K hK => ?_; go_simp; refine hK _ _ ⟨?_, ?_⟩; (focus (refine g_idle hD ?_; intro e he; have hm := mem_listed he; simp [go_sem, *] at hm; done)); clear hK K; try w_num)) | ((with_reducible refine g_reg hD ?_); intro _ h₁; replace hF := rl hF h₁; clear h₁; simp only [reg21]) | ((first | ((with_reducible refine g_c (k' := ?_) true true hD ?_ ?_); rotate_left; focus exact rfl) | with_reducible refine g_r hD rfl ?_); intro _ h₁; replace hF := rl hF h₁; clear h₁)))
 refine Goes.step rfl fun w₁ h₁ => ?_
 replace hF := rl hF h₁
 clear h₁
 refine goes_oper_k rfl rfl (by decide) (fun K hK => ?_)
 go_simp
 refine hK _ _ ⟨sd_new (by simp) (fun e he => ?_), ?_⟩
 · have hm := mem_listed he
   simp [go_sem] at hm
 clear hK K
 replace hF := al1.out _ hF
 generalize w₁.alloc (.cells #[.int .i64 3, .int .i64 5] 3) = w₂ at hF ⊢
 generalize w₁.heap.size = g1 at hF ⊢
 clear w₁ rl
 have rl : ∀ {w w₁ : World}, F1 g1 w → AtRel w w₁ → F1 g1 w₁ := fun h r => (s1.out _ ).rel h r
 try walk_nrm
 repeat ((first | ((with_reducible refine g_opG ?_); first | (refine g_unw hD rfl rfl ?_; intro _ h₁; replace hF := rl hF h₁; clear h₁; walk_nrm) | (refine Goes.step rfl ?_; intro _ h₁; replace hF := rl hF h₁; clear h₁; refine goes_oper_k rfl rfl (by k_ne) fun K hK => ?_; go_simp; refine hK _ _ ⟨?_, ?_⟩; (focus (refine g_idle hD ?_; intro e he; have hm := mem_listed he; simp [go_sem, *] at hm; done)); clear hK K; try w_num)) | ((with_reducible refine g_reg hD ?_); intro _ h₁; replace hF := rl hF h₁; clear h₁; simp only [reg21]) | ((first | ((with_reducible refine g_c (k' := ?_) true true hD ?_ ?_); rotate_left; focus exact rfl) | with_reducible refine g_r hD rfl ?_); intro _ h₁; replace hF := rl hF h₁; clear h₁)))
 ((with_reducible refine g_opG ?_); refine Goes.step rfl (fun _ h₁ => ?_); replace hF := rl hF h₁; clear h₁; refine goes_call rfl rfl (by k_ne) rfl Try.func14 rfl rfl ⟨hD _, ?_⟩; walk_nrmf Try.f14)
 exact Goes.stop fun w₃ h₃ => hgo.out _ _ _ (rl hF h₃) rfl rfl rfl
set_option maxRecDepth 100000 in
theorem aw12 {Stop : Goroutine → World → Prop}  {F0 : World → Prop} (hF : F0 w) (s0 : Steady F0) {T : Array Value} (hs : T.size = 49) (t6 : T[6]? = some (.int .i64 1)) (t40 : T[40]? = some (.bool true))
   (hgo : ∀ w, F0 w → Stop (G (b₀.at (a₀.put ((ops₀[i₀]?).bind (·.dst)) (.bool true)) (.inRegion ops₀ rest₀ :: k₀)) cs) w) :
   Goes Try.prog true AtRel (SD Shun) Stop 60 (G ((base 10).at ⟨T.setIfInBounds 43 (.bool true), []⟩ (.inRegion (cO (cF (tl10 4))) [15, 16, 17, 18, 19, 20] :: [.code (tl10 5)])) (b₀.at a₀ (.inRegion ops₀ (i₀ :: rest₀) :: k₀) :: cs)) w := by
 have hD : ∀ w, SD Shun w w #[] := sd_idle
 have rl : ∀ {w w₁ : World}, F0 w → AtRel w w₁ → F0 w₁ := fun h r => s0.rel h r
 replace hgo := Hd.mk hgo
 obtain ⟨v0, v1, v2, v3, v4, v5, v6, v7, v8, v9, v10, v11, v12, v13, v14, v15, v16, v17, v18, v19, v20, v21, v22, v23, v24, v25, v26, v27, v28, v29, v30, v31, v32, v33, v34, v35, v36, v37, v38, v39, v40, v41, v42, v43, v44, v45, v46, v47, v48, rfl⟩ := array49 T hs
 simp only [List.getElem?_toArray, List.getElem?_cons_zero, List.getElem?_cons_succ, Option.some.injEq] at t6 t40
 subst t6 t40
 clear hs
 simp only [tl10, body10, cO, cS, cF, Try.f10, Option.getD_some] at hgo ⊢
 try walk_nrm
 repeat ((first | ((with_reducible refine g_opG ?_); first | (refine g_unw hD rfl rfl ?_; intro _ h₁; replace hF := rl hF h₁; clear h₁; walk_nrm) | (refine Goes.step rfl ?_; intro _ h₁; replace hF := rl hF h₁; clear h₁; refine goes_oper_k rfl rfl (by k_ne) fun K hK => ?_; go_simp; refine hK _ _ ⟨?_, ?_⟩; (focus (refine g_idle hD ?_; intro e he; have hm := mem_listed he; simp [go_sem, *] at hm; done)); clear hK K; try w_num)) | ((with_reducible refine g_reg hD ?_); intro _ h₁; replace hF := rl hF h₁; clear h₁; simp only [reg21]) | ((first | ((with_reducible refine g_c (k' := ?_) true true hD ?_ ?_); rotate_left; focus exact rfl) | with_reducible refine g_r hD rfl ?_); intro _ h₁; replace hF := rl hF h₁; clear h₁)))
 refine Goes.step rfl fun w₃ h₃ => ?_
 replace hF := rl hF h₃
 clear h₃
 refine goes_leave1 rfl rfl Try.func10 rfl ⟨sd_idle _, ?_⟩
 exact Goes.stop fun w₄ h₄ => hgo.out _ (rl hF h₄)
end
end Go.Proofs.Ytblpmdolclalnaa
namespace Go.Proofs.Ytblpmdolclalnaa
open Go.Conc
section
variable {Shun S : Nat → Prop} {w w₁ : World} {fa : Option Addr} {xs : List Value} {ys : List Int} {v : Value}
theorem Lone.next {P : Program} {Q Q' : (Nat → Prop) → Goroutine → World → Prop} {a : Goroutine} {N0 N1 : Nat} (h : Lone P N1 Q Shun a w) (hn : N0 ≤ N1) (hq : ∀ S a w, Q S a w → Lone P N0 Q' S a w) : Lone P N0 Q' Shun a w := (h.low hn).bind fun S a w _ => hq S a w
theorem Got.keep (h : Got w v ys) (k : Keep Shun w S w₁) (h66 : S66 Shun w) : Got w₁ v ys := by
 obtain ⟨fa, cap, e, hr⟩ := h
 refine ⟨fa, cap, e, ownsRow_of hr fun g hg => ?_⟩
 obtain ⟨cs, hc⟩ := row_tp hr hg
 refine k.out.blk g (Array.getElem?_eq_some_iff.1 hc).1 fun _ hs => ?_
 obtain ⟨cs', hc'⟩ := h66 g hs
 rw [hc] at hc'
 cases hc'
theorem Got.ls (h : Got w v ys) (h66 : S66 S w) : ∃ fa cap, v = .slice fa ys.length cap ∧ Ls S fa (ints ys) w := let ⟨fa, cap, e, hr⟩ := h; ⟨fa, cap, e, Ls.row hr (by decide) h66⟩
theorem ls_new {t : TypeId} (h66 : S66 S w) (xs : List Value) : Ls S (some ⟨w.heap.size, 0, none⟩) xs (w.alloc (.cells xs.toArray t)) := fun i v hv => by
 refine ⟨_, 0, rfl, fun hs => Nat.lt_irrefl _ (h66.lt hs), ?_⟩
 have hn := heap_alloc_new w (Obj.cells xs.toArray t)
 unfold World.cell?
 rw [hn]
 simpa using hv
theorem keep_new (h66 : S66 S w) (o : Obj) : Keep S w S (w.alloc o) := (Keep.refl h66).alloc o
end
section
variable {Shun : Nat → Prop} {w : World} {b₀ : Frame} {a₀ : Act} {ops₀ : Array Oper} {i₀ : Nat} {rest₀ : List Nat} {k₀ : List Item} {cs : List Frame}
theorem awake_call (h66 : S66 Shun w) : Lone Try.prog w.heap.size (fun S g w' => Keep Shun w S w' ∧ g = G (b₀.at (a₀.put ((ops₀[i₀]?).bind (·.dst)) (.bool true)) (.inRegion ops₀ rest₀ :: k₀)) cs) Shun
   (G ((base 10).at ⟨#[undef, undef, undef, undef, undef, undef, undef, undef, undef, undef, undef, undef, undef, undef, undef, undef, undef, undef, undef, undef, undef, undef, undef, undef, undef, undef, undef, undef, undef, undef, undef, undef, undef, undef, undef, undef, undef, undef, undef, undef, undef, undef, undef, undef, undef, undef, undef, undef, undef], []⟩ [.code body10]) (b₀.at a₀ (.inRegion ops₀ (i₀ :: rest₀) :: k₀) :: cs)) w := by
 refine Lone.on (n := 60) (aw0 (F0 := AtRel w) ⟨w.drawn, rfl⟩ AtRel.steady fun T w1 hF hs _ => ?_)
 have K1 := keep_refl_at h66 hF
 clear hF
 refine (fn12 (a := 1) K1.s66).next K1.out.size fun S2 g2 w2 h2 => ?_
 obtain ⟨k2, kb, c2, rfl⟩ := h2
 have K2 := K1.trans k2
 refine Lone.on (n := 60) (aw1 (kb := kb) (F0 := fun w' => Keep Shun w S2 w' ∧ Cel S2 kb (.int .u8 1) w') (F1 := fun g w' => Keep Shun w S2 w' ∧ Cel S2 kb (.int .u8 1) w' ∧ Ls S2 (some ⟨g, 0, none⟩) (ints [1, 2, 3]) w')
   ⟨K2, c2⟩ (fun _ d h => ⟨h.1.at d, h.2⟩) (fun w' h => ⟨h.1.alloc _, h.2.keep (keep_new h.1.s66 _), ls_new h.1.s66 (ints [1, 2, 3])⟩) (fun g _ d h => ⟨h.1.at d, h.2⟩) hs fun g1 T w3 hF hs t8 _ => ?_)
 refine (fn13 (fa := some ⟨g1, 0, none⟩) (n := 3) (cap := 3) hF.1.s66).next hF.1.out.size fun S4 g4 w4 h4 => ?_
 obtain ⟨k4, kl, c4, rfl⟩ := h4
 refine Lone.on (n := 60) (aw2 (kb := kb) (kl := kl) (F0 := fun w' => Keep Shun w S4 w' ∧ Cel S4 kb (.int .u8 1) w' ∧ Cel S4 kl (.slice (some ⟨g1, 0, none⟩) 3 3) w' ∧ Ls S4 (some ⟨g1, 0, none⟩) (ints [1, 2, 3]) w')
   ⟨hF.1.trans k4, hF.2.1.keep k4, c4, hF.2.2.keep k4⟩ (fun _ d h => ⟨h.1.at d, h.2⟩) hs t8 fun T w5 hF hs _ => ?_)
 refine (map_law (K := 3) (c := 1) (ns := [1, 2, 3]) (fa := some ⟨g1, 0, none⟩) (cap := 3) hF.1.s66 (by omega) (by omega) (by omega) (by simp) hF.2.1 hF.2.2.1 hF.2.2.2).next hF.1.out.size fun S6 g6 w6 h6 => ?_
 obtain ⟨k6, v1, r1, rfl⟩ := h6
 have K6 := hF.1.trans k6
 clear hF
 refine Lone.on (n := 60) (aw3 (v1 := v1) (F0 := fun w' => Keep Shun w S6 w' ∧ Got w' v1 [2, 4, 6]) (F1 := fun g w' => Keep Shun w S6 w' ∧ Got w' v1 [2, 4, 6] ∧ Ls S6 (some ⟨g, 0, none⟩) (ints [1, 2]) w')
   ⟨K6, r1⟩ (fun _ d h => ⟨h.1.at d, h.2⟩) (fun w' h => ⟨h.1.alloc _, h.2.keep (keep_new h.1.s66 _) h.1.s66, ls_new h.1.s66 (ints [1, 2])⟩) (fun g _ d h => ⟨h.1.at d, h.2⟩) hs fun g2 T w7 hF hs u1 u2 _ => ?_)
 refine (fn13 (fa := some ⟨g2, 0, none⟩) (n := 2) (cap := 2) hF.1.s66).next hF.1.out.size fun S8 g8 w8 h8 => ?_
 obtain ⟨k8, kl2, c8, rfl⟩ := h8
 refine Lone.on (n := 60) (aw4 (v1 := v1) (kl := kl2) (F0 := fun w' => Keep Shun w S8 w' ∧ Got w' v1 [2, 4, 6] ∧ Cel S8 kl2 (.slice (some ⟨g2, 0, none⟩) 2 2) w' ∧ Ls S8 (some ⟨g2, 0, none⟩) (ints [1, 2]) w')
   ⟨hF.1.trans k8, hF.2.1.keep k8 hF.1.s66, c8, hF.2.2.keep k8⟩ (fun _ d h => ⟨h.1.at d, h.2⟩) hs u1 u2 fun T w9 hF hs u1 u2 u16 _ => ?_)
 refine (fn12 (a := 1) hF.1.s66).next hF.1.out.size fun S10 g10 w10 h10 => ?_
 obtain ⟨k10, kb1, c10, rfl⟩ := h10
 refine Lone.on (n := 60) (aw5 (v1 := v1) (kl := kl2) (kb := kb1) (F0 := fun w' => Keep Shun w S10 w' ∧ Got w' v1 [2, 4, 6] ∧ Cel S10 kl2 (.slice (some ⟨g2, 0, none⟩) 2 2) w' ∧ Ls S10 (some ⟨g2, 0, none⟩) (ints [1, 2]) w' ∧ Cel S10 kb1 (.int .u8 1) w')
   ⟨hF.1.trans k10, hF.2.1.keep k10 hF.1.s66, hF.2.2.1.keep k10, hF.2.2.2.keep k10, c10⟩ (fun _ d h => ⟨h.1.at d, h.2⟩) hs u1 u2 u16 fun T w11 hF hs u1 u2 u16 u17 _ => ?_)
 refine (fn12 (a := 0) hF.1.s66).next hF.1.out.size fun S12 g12 w12 h12 => ?_
 obtain ⟨k12, kb0, c12, rfl⟩ := h12
 refine Lone.on (n := 60) (aw6 (v1 := v1) (kl := kl2) (kb := kb1) (kc := kb0) (F0 := fun w' => Keep Shun w S12 w' ∧ Got w' v1 [2, 4, 6] ∧ Cel S12 kl2 (.slice (some ⟨g2, 0, none⟩) 2 2) w' ∧ Ls S12 (some ⟨g2, 0, none⟩) (ints [1, 2]) w' ∧ Cel S12 kb1 (.int .u8 1) w' ∧ Cel S12 kb0 (.int .u8 0) w')
   (F1 := fun g w' => Keep Shun w S12 w' ∧ Got w' v1 [2, 4, 6] ∧ Cel S12 kl2 (.slice (some ⟨g2, 0, none⟩) 2 2) w' ∧ Ls S12 (some ⟨g2, 0, none⟩) (ints [1, 2]) w' ∧ Cel S12 kb1 (.int .u8 1) w' ∧ Cel S12 kb0 (.int .u8 0) w' ∧ Ls S12 (some ⟨g, 0, none⟩) [fnV kb1, fnV kb0] w')
   ⟨hF.1.trans k12, hF.2.1.keep k12 hF.1.s66, hF.2.2.1.keep k12, hF.2.2.2.1.keep k12, hF.2.2.2.2.keep k12, c12⟩ (fun _ d h => ⟨h.1.at d, h.2⟩)
   (fun w' h => (let k := keep_new h.1.s66 _; ⟨h.1.alloc _, h.2.1.keep k h.1.s66, h.2.2.1.keep k, h.2.2.2.1.keep k, h.2.2.2.2.1.keep k, h.2.2.2.2.2.keep k, ls_new h.1.s66 [fnV kb1, fnV kb0]⟩)) (fun g _ d h => ⟨h.1.at d, h.2⟩) hs u1 u2 u16 u17 fun g3 T w13 hF hs u1 u2 _ => ?_)
 refine (chain_law (codes := [1, 0]) (ns := [1, 2]) (kf := fun s => if s = 0 then kb1 else kb0) (ff := some ⟨g3, 0, none⟩) (capf := 2) (fa := some ⟨g2, 0, none⟩) (cap := 2) hF.1.s66 (by simp) (by simp) (by simp)
   (fun s hs => by
     have : s = 0 ∨ s = 1 := by simp at hs; omega
     rcases this with rfl | rfl
     · exact hF.2.2.2.2.1
     · exact hF.2.2.2.2.2.1) (fun s hs => by
     have : s = 0 ∨ s = 1 := by simp at hs; omega
     rcases this with rfl | rfl
     · exact hF.2.2.2.2.2.2 0 _ rfl
     · exact hF.2.2.2.2.2.2 1 _ rfl) hF.2.2.1 hF.2.2.2.1).next hF.1.out.size fun S14 g14 w14 h14 => ?_
 obtain ⟨k14, v2, r2, rfl⟩ := h14
 have K14 := hF.1.trans k14
 have R14 := hF.2.1.keep k14 hF.1.s66
 clear hF
 refine Lone.on (n := 60) (aw7 (v1 := v1) (v2 := v2) (F0 := fun w' => Keep Shun w S14 w' ∧ Got w' v1 [2, 4, 6] ∧ Got w' v2 [3, 5]) ⟨K14, R14, r2⟩ (fun _ d h => ⟨h.1.at d, h.2⟩) hs u1 u2 fun T w15 hF hs u1 u2 u3 u4 _ => ?_)
 refine (fn12 (a := 1) hF.1.s66).next hF.1.out.size fun S16 g16 w16 h16 => ?_
 obtain ⟨k16, kb2, c16, rfl⟩ := h16
 refine Lone.on (n := 60) (aw8 (v1 := v1) (v2 := v2) (kb := kb2) (F0 := fun w' => Keep Shun w S16 w' ∧ Got w' v1 [2, 4, 6] ∧ Got w' v2 [3, 5]) ⟨hF.1.trans k16, hF.2.1.keep k16 hF.1.s66, hF.2.2.keep k16 hF.1.s66⟩ (fun _ d h => ⟨h.1.at d, h.2⟩) hs u1 u2 u3 u4 fun T w17 hF hs u1 u2 u3 u4 u24 _ => ?_)
 refine (fn13 (fa := none) (n := 0) (cap := 0) hF.1.s66).next hF.1.out.size fun S18 g18 w18 h18 => ?_
 obtain ⟨k18, kl3, _, rfl⟩ := h18
 refine Lone.on (n := 60) (aw9 (v1 := v1) (v2 := v2) (kb := kb2) (kl := kl3) (F0 := fun w' => Keep Shun w S18 w' ∧ Got w' v1 [2, 4, 6] ∧ Got w' v2 [3, 5]) ⟨hF.1.trans k18, hF.2.1.keep k18 hF.1.s66, hF.2.2.keep k18 hF.1.s66⟩ (fun _ d h => ⟨h.1.at d, h.2⟩) hs u1 u2 u3 u4 u24 fun T w19 hF hs u1 u2 u3 u4 _ => ?_)
 refine (map_few (k := 0) hF.1.s66 (by omega)).next hF.1.out.size fun S20 g20 w20 h20 => ?_
 obtain ⟨k20, rfl⟩ := h20
 have K20 := hF.1.trans k20
 have A := hF.2.1.keep k20 hF.1.s66
 have B := hF.2.2.keep k20 hF.1.s66
 clear hF
 obtain ⟨f1, c1, rfl, _⟩ := A.ls K20.s66
 obtain ⟨f2, cc2, rfl, _⟩ := B.ls K20.s66
 refine Lone.on (n := 60) (aw10 (fa := f1) (na := 3) (ca := c1) (v2 := .slice f2 2 cc2) (F0 := fun w' => Keep Shun w S20 w' ∧ Got w' (.slice f1 3 c1) [2, 4, 6] ∧ Got w' (.slice f2 2 cc2) [3, 5]) (F1 := fun g w' => Keep Shun w S20 w' ∧ Got w' (.slice f1 3 c1) [2, 4, 6] ∧ Got w' (.slice f2 2 cc2) [3, 5] ∧ Ls S20 (some ⟨g, 0, none⟩) (ints [2, 4, 6]) w')
   ⟨K20, A, B⟩ (fun _ d h => ⟨h.1.at d, h.2⟩) (fun w' h => (let k := keep_new h.1.s66 _; ⟨h.1.alloc _, h.2.1.keep k h.1.s66, h.2.2.keep k h.1.s66, ls_new h.1.s66 (ints [2, 4, 6])⟩)) (fun g _ d h => ⟨h.1.at d, h.2⟩) hs u1 u2 u3 u4 fun g4 T w21 hF hs u3 u4 u6 u31 _ => ?_)
 obtain ⟨_, _, e, hls⟩ := hF.2.1.ls hF.1.s66
 cases e
 refine (equal_call (ns := [2, 4, 6]) (ms := [2, 4, 6]) (N0 := w.heap.size) hls hF.2.2.2 (by simp)).bind fun S22 g22 w22 _ h22 => ?_
 obtain ⟨rfl, r22, rfl⟩ := h22
 refine Lone.on (n := 60) (aw11 (fa := f2) (na := 2) (ca := cc2) (F0 := fun w' => Keep Shun w S22 w' ∧ Got w' (.slice f2 2 cc2) [3, 5]) (F1 := fun g w' => Keep Shun w S22 w' ∧ Got w' (.slice f2 2 cc2) [3, 5] ∧ Ls S22 (some ⟨g, 0, none⟩) (ints [3, 5]) w')
   (by obtain ⟨d, rfl⟩ := r22; exact ⟨hF.1.at d, hF.2.2.1⟩) (fun _ d h => ⟨h.1.at d, h.2⟩) (fun w' h => (let k := keep_new h.1.s66 _; ⟨h.1.alloc _, h.2.keep k h.1.s66, ls_new h.1.s66 (ints [3, 5])⟩)) (fun g _ d h => ⟨h.1.at d, h.2⟩) hs u3 u4 u6 u31 fun g5 T w23 hF hs u6 u40 _ => ?_)
 obtain ⟨_, _, e, hls⟩ := hF.2.1.ls hF.1.s66
 cases e
 refine (equal_call (ns := [3, 5]) (ms := [3, 5]) (N0 := w.heap.size) hls hF.2.2 (by simp)).bind fun S24 g24 w24 _ h24 => ?_
 obtain ⟨rfl, r24, rfl⟩ := h24
 exact Lone.goes (n := 60) (aw12 (F0 := fun w' => Keep Shun w S24 w') (by obtain ⟨d, rfl⟩ := r24; exact hF.1.at d) (fun _ d h => h.at d) hs u6 u40 fun w' h => ⟨h, rfl⟩)
end
end Go.Proofs.Ytblpmdolclalnaa
namespace Go.Proofs.Ytblpmdolclalnaa
open Go.Conc Go.RowKit Go.Conc.Lib Go.ConcR.Gen Go.ConcN.Gen
theorem ended1 {P : Program} {b : Frame} {fn : Func} {t : Tmp} {T : Array Value} {todo : List Item} {w : World} {v : Value} (hn : b.kind = .normal) (hm : P.inits.idxOf? b.fn = none) (hf : P.funcs[b.fn]? = some fn) (hr : fn.results = #[.tmp t]) (hv : T[t]? = some v) :
   stepG P true (G { b.at ⟨T, []⟩ todo with mode := .returning } []) w = .ended (.done v) w #[] := by
 simp [G, stepG, unwind, doReturn, Frame.at, hf, results, hr, seen, GStep.after, hv, hn, hm]
section
variable {Shun : Nat → Prop} {w : World} {cs : List Frame} {kb kl : Nat} {v1 v2 : Value} {fa fb : Option Addr} {ca cb na nb : Nat} {c k : Int}
end
end Go.Proofs.Ytblpmdolclalnaa
namespace Go.Proofs.Ytblpmdolclalnaa
open Go.Conc
abbrev none0 : Nat → Prop := fun _ => False
theorem s66_none (w : World) : S66 none0 w := fun _ h => h.elim
def LawEnd (f n r : Nat) (w : World) (S : Nat → Prop) (g : Goroutine) (w' : World) : Prop :=
 Keep none0 w S w' ∧ ∃ T k, T.size = n ∧ T[r]? = some (.bool true) ∧ g = G { (base f).at ⟨T, []⟩ k with mode := .returning } []
def PostL (w : World) (v : Value) (w' : World) : Prop := v = .bool true ∧ w'.os = w.os ∧ w'.tape = w.tape ∧ w'.output = w.output ∧ w.heap.size ≤ w'.heap.size ∧ ∀ b, b < w.heap.size → w'.heap[b]? = w.heap[b]?
theorem law_ends {f n r : Nat} {fn : Func} {w : World} {a : Goroutine} (hi : Try.prog.inits.idxOf? f = none) (hf : Try.prog.funcs[f]? = some fn) (hr : fn.results = #[.tmp r]) (h : Lone Try.prog w.heap.size (LawEnd f n r w) none0 a w) : Ends Try.prog (PostL w) (crowd #[a] w none) #[] := by
 refine Lone.ends (N0 := w.heap.size) (Shun := none0) (a := a) (w := w) (h.imp fun S g w' _ hE d => ?_) rfl (rest_start Try.prog a w)
 obtain ⟨hk, T, k, _, hv, rfl⟩ := hE
 exact ⟨rfl, _, #[], ended1 rfl hi hf hr hv, by simp, rfl, hk.out.os, hk.out.tape, hk.out.out, hk.out.size, fun b hb => hk.out.blk b hb fun _ h => h⟩
theorem array_of (T : Array Value) : T = ((List.range T.size).map fun i => T.getD i undef).toArray := by
 refine Array.ext_getElem? fun i => ?_
 rcases Nat.lt_or_ge i T.size with h | h
 · simp [h]
 · simp [h]
end Go.Proofs.Ytblpmdolclalnaa
