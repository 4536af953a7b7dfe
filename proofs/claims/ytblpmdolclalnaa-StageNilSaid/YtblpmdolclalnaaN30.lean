/- Goroutine 0 alone: the pieces of the walk of the law StageNil, from call to call. Made by gen_nic.py. -/
import Derived.Test.YtblpmdolclalnaaN10
import Derived.Test.YtblpmdolclalnaaN24
import Derived.Test.YtblpmdolclalnaaN29
set_option maxHeartbeats 16000000
set_option linter.unusedSimpArgs false
set_option linter.unusedVariables false
namespace Go.Proofs.Ytblpmdolclalnaa
open Go.Conc Go.RowKit Go.Conc.Lib Go.ConcR.Gen Go.ConcN.Gen
noncomputable def body7 : Code := Try.f7.body.getD .skip
noncomputable def tl7 : Nat → Code | 0 => body7 | n + 1 => cS (tl7 n)
noncomputable def lp7 : Code := cI (cI (cS (cF (tl7 10))))
section
variable {Shun : Nat → Prop} {w : World} {cs : List Frame} {kb kl k : Nat} {fa fs : Option Addr} {ca na c2 : Nat} {b1 : Int}
set_option maxRecDepth 100000 in
theorem nc0 {Stop : Goroutine → World → Prop}  {F0 : World → Prop} (hF : F0 w) (s0 : Steady F0)
   (hgo : ∀ T w, F0 w → T.size = 123 → T[0]? = some (.slice fa na ca) → T[1]? = some (.int .u8 b1) → Stop (G ((base 9).at ⟨#[.slice fa na ca, undef, undef, undef, undef, undef, undef, undef, undef, undef, undef, undef, undef, undef, undef, undef, undef, undef, undef, undef, undef, undef, undef, undef, undef], []⟩ [.code body9]) ((base 7).at ⟨T, []⟩ (.inRegion (cO (cF (cF (tl7 1)))) [1, 2] :: [.code (cS (cF (tl7 1))), .code (tl7 2)]) :: cs)) w) :
   Goes Try.prog true AtRel (SD Shun) Stop 60 (G ((base 7).at ⟨#[.slice fa na ca, .int .u8 b1, undef, undef, undef, undef, undef, undef, undef, undef, undef, undef, undef, undef, undef, undef, undef, undef, undef, undef, undef, undef, undef, undef, undef, undef, undef, undef, undef, undef, undef, undef, undef, undef, undef, undef, undef, undef, undef, undef, undef, undef, undef, undef, undef, undef, undef, undef, undef, undef, undef, undef, undef, undef, undef, undef, undef, undef, undef, undef, undef, undef, undef, undef, undef, undef, undef, undef, undef, undef, undef, undef, undef, undef, undef, undef, undef, undef, undef, undef, undef, undef, undef, undef, undef, undef, undef, undef, undef, undef, undef, undef, undef, undef, undef, undef, undef, undef, undef, undef, undef, undef, undef, undef, undef, undef, undef, undef, undef, undef, undef, undef, undef, undef, undef, undef, undef, undef, undef, undef, undef, undef, undef], []⟩ [.code body7]) cs) w := by
 have hD : ∀ w, SD Shun w w #[] := sd_idle
 have rl : ∀ {w w₁ : World}, F0 w → AtRel w w₁ → F0 w₁ := fun h r => s0.rel h r
 replace hgo := Hd.mk hgo
 simp only [tl7, body7, cT, cO, cS, cF, cI, Try.f7, Option.getD_some, body9, Try.f9] at hgo ⊢
 try walk_nrm
 repeat ((first | ((with_reducible refine g_opG ?_); first | (refine g_unw hD rfl rfl ?_; intro _ h₁; replace hF := rl hF h₁; clear h₁; walk_nrm) | (refine Goes.step rfl ?_; intro _ h₁; replace hF := rl hF h₁; clear h₁; refine goes_oper_k rfl rfl (by k_ne) fun K hK => ?_; go_simp; refine hK _ _ ⟨?_, ?_⟩; (focus (refine g_idle hD ?_; intro e he; have hm := mem_listed he; simp [go_sem, *] at hm; done)); clear hK K; try w_num)) | ((first | ((with_reducible refine g_c (k' := ?_) true true hD ?_ ?_); rotate_left; focus exact rfl) | with_reducible refine g_r hD rfl ?_); intro _ h₁; replace hF := rl hF h₁; clear h₁)))
 ((with_reducible refine g_opG ?_); refine Goes.step rfl (fun _ h₁ => ?_); replace hF := rl hF h₁; clear h₁; refine goes_call rfl rfl (by k_ne) rfl Try.func9 rfl rfl ⟨hD _, ?_⟩; walk_nrmf Try.f9)
 exact Goes.stop fun w₃ h₃ => hgo.out _ _ (rl hF h₃) rfl rfl rfl
set_option maxRecDepth 100000 in
theorem nc1 {Stop : Goroutine → World → Prop}  {F0 : World → Prop} (hF : F0 w) (s0 : Steady F0) {T : Array Value} (hs : T.size = 123)
   (hgo : ∀ T w, F0 w → T.size = 123 → Stop (G ((base 10).at ⟨#[undef, undef, undef, undef, undef, undef, undef, undef, undef, undef, undef, undef, undef, undef, undef, undef, undef, undef, undef, undef, undef, undef, undef, undef, undef, undef, undef, undef, undef, undef, undef, undef, undef, undef, undef, undef, undef, undef, undef, undef, undef, undef, undef, undef, undef, undef, undef, undef, undef], []⟩ [.code body10]) ((base 7).at ⟨T, []⟩ (.inRegion (cO (cF (cT (cS (cF (tl7 1)))))) [0, 1] :: [.code (cS (cT (cS (cF (tl7 1))))), .code (tl7 2)]) :: cs)) w) :
   Goes Try.prog true AtRel (SD Shun) Stop 60 (G ((base 7).at ⟨T.setIfInBounds 19 (.bool false), []⟩ (.inRegion (cO (cF (cF (tl7 1)))) [2] :: [.code (cS (cF (tl7 1))), .code (tl7 2)])) cs) w := by
 have hD : ∀ w, SD Shun w w #[] := sd_idle
 have rl : ∀ {w w₁ : World}, F0 w → AtRel w w₁ → F0 w₁ := fun h r => s0.rel h r
 replace hgo := Hd.mk hgo
 obtain ⟨v, rfl⟩ := array123 T hs
 clear hs
 simp only [tl7, body7, cT, cO, cS, cF, cI, Try.f7, Option.getD_some, body10, Try.f10] at hgo ⊢
 try walk_nrm
 repeat ((first | ((with_reducible refine g_opG ?_); first | (refine g_unw hD rfl rfl ?_; intro _ h₁; replace hF := rl hF h₁; clear h₁; walk_nrm) | (refine Goes.step rfl ?_; intro _ h₁; replace hF := rl hF h₁; clear h₁; refine goes_oper_k rfl rfl (by k_ne) fun K hK => ?_; go_simp; refine hK _ _ ⟨?_, ?_⟩; (focus (refine g_idle hD ?_; intro e he; have hm := mem_listed he; simp [go_sem, *] at hm; done)); clear hK K; try w_num)) | ((first | ((with_reducible refine g_c (k' := ?_) true true hD ?_ ?_); rotate_left; focus exact rfl) | with_reducible refine g_r hD rfl ?_); intro _ h₁; replace hF := rl hF h₁; clear h₁)))
 ((with_reducible refine g_opG ?_); refine Goes.step rfl (fun _ h₁ => ?_); replace hF := rl hF h₁; clear h₁; refine goes_call rfl rfl (by k_ne) rfl Try.func10 rfl rfl ⟨hD _, ?_⟩; walk_nrmf Try.f10)
 exact Goes.stop fun w₃ h₃ => hgo.out _ _ (rl hF h₃) rfl
set_option maxRecDepth 100000 in
theorem nc1b {Stop : Goroutine → World → Prop}  {F0 : World → Prop} (hF : F0 w) (s0 : Steady F0) {T : Array Value} (hs : T.size = 123)
   (hgo : ∀ T k w, F0 w → T.size = 123 → T[4]? = some (.bool true) → Stop (G { (base 7).at ⟨T, []⟩ k with mode := .returning } []) w) :
   Goes Try.prog true AtRel (SD Shun) Stop 60 (G ((base 7).at ⟨T.setIfInBounds 21 (.bool true), []⟩ (.inRegion (cO (cF (cT (cS (cF (tl7 1)))))) [1] :: [.code (cS (cT (cS (cF (tl7 1))))), .code (tl7 2)])) []) w := by
 have hD : ∀ w, SD Shun w w #[] := sd_idle
 have rl : ∀ {w w₁ : World}, F0 w → AtRel w w₁ → F0 w₁ := fun h r => s0.rel h r
 replace hgo := Hd.mk hgo
 obtain ⟨v, rfl⟩ := array123 T hs
 clear hs
 simp only [tl7, body7, cT, cO, cS, cF, cI, Try.f7, Option.getD_some] at hgo ⊢
 try walk_nrm
 repeat ((first | ((with_reducible refine g_opG ?_); first | (refine g_unw hD rfl rfl ?_; intro _ h₁; replace hF := rl hF h₁; clear h₁; walk_nrm) | (refine Goes.step rfl ?_; intro _ h₁; replace hF := rl hF h₁; clear h₁; refine goes_oper_k rfl rfl (by k_ne) fun K hK => ?_; go_simp; refine hK _ _ ⟨?_, ?_⟩; (focus (refine g_idle hD ?_; intro e he; have hm := mem_listed he; simp [go_sem, *] at hm; done)); clear hK K; try w_num)) | ((first | ((with_reducible refine g_c (k' := ?_) true true hD ?_ ?_); rotate_left; focus exact rfl) | with_reducible refine g_r hD rfl ?_); intro _ h₁; replace hF := rl hF h₁; clear h₁)))
 exact Goes.stop fun w₃ h₃ => hgo.out _ _ _ (rl hF h₃) rfl rfl
set_option maxRecDepth 100000 in
theorem nc2 {Stop : Goroutine → World → Prop}  {F0 : World → Prop} (hF : F0 w) (s0 : Steady F0) {T : Array Value} (hs : T.size = 123) (t0 : T[0]? = some (.slice fa na ca)) (t1 : T[1]? = some (.int .u8 b1)) (hk : b1.tmod 16 = (k : Int)) (hw1 : IntKind.i64.wrap (k : Int) = (k : Int)) (hw2 : IntKind.i64.wrap (1 + (k : Int)) = ((k + 1 : Nat) : Int))
   (hgo : ∀ T w, F0 w → T.size = 123 → T[0]? = some (.slice fa na ca) → T[5]? = some (.int .i64 (k + 1 : Nat)) → T[6]? = some (.nilFunc) → T[27]? = some (.int .i64 (k + 1 : Nat)) → T[28]? = some (.nilFunc) → Stop (G ((base 13).at ⟨#[.slice fa na ca, undef, undef, undef], []⟩ [.code body13]) ((base 7).at ⟨T, []⟩ (.inRegion (cO (cF (tl7 4))) [3, 4, 5, 6, 7, 8, 9] :: [.code (tl7 5)]) :: cs)) w) :
   Goes Try.prog true AtRel (SD Shun) Stop 60 (G ((base 7).at ⟨T.setIfInBounds 19 (.bool true), []⟩ (.inRegion (cO (cF (cF (tl7 1)))) [2] :: [.code (cS (cF (tl7 1))), .code (tl7 2)])) cs) w := by
 have hD : ∀ w, SD Shun w w #[] := sd_idle
 have rl : ∀ {w w₁ : World}, F0 w → AtRel w w₁ → F0 w₁ := fun h r => s0.rel h r
 replace hgo := Hd.mk hgo
 obtain ⟨v, rfl⟩ := array123 T hs
 simp only [List.getElem?_toArray, List.getElem?_cons_zero, List.getElem?_cons_succ, Option.some.injEq] at t0 t1
 rw [t0, t1]
 clear hs
 simp only [tl7, body7, cT, cO, cS, cF, cI, Try.f7, Option.getD_some, body13, Try.f13] at hgo ⊢
 try walk_nrm
 repeat ((first | ((with_reducible refine g_opG ?_); first | (refine g_unw hD rfl rfl ?_; intro _ h₁; replace hF := rl hF h₁; clear h₁; walk_nrm) | (refine Goes.step rfl ?_; intro _ h₁; replace hF := rl hF h₁; clear h₁; refine goes_oper_k rfl rfl (by k_ne) fun K hK => ?_; go_simp; refine hK _ _ ⟨?_, ?_⟩; (focus (refine g_idle hD ?_; intro e he; have hm := mem_listed he; simp [go_sem, *] at hm; done)); clear hK K; try w_num)) | ((first | ((with_reducible refine g_c (k' := ?_) true true hD ?_ ?_); rotate_left; focus exact rfl) | with_reducible refine g_r hD rfl ?_); intro _ h₁; replace hF := rl hF h₁; clear h₁)))
 ((with_reducible refine g_opG ?_); refine Goes.step rfl (fun _ h₁ => ?_); replace hF := rl hF h₁; clear h₁; refine goes_call rfl rfl (by k_ne) rfl Try.func13 rfl rfl ⟨hD _, ?_⟩; walk_nrmf Try.f13)
 exact Goes.stop fun w₃ h₃ => hgo.out _ _ (rl hF h₃) rfl rfl rfl rfl rfl rfl
set_option maxRecDepth 100000 in
theorem nc3 {Stop : Goroutine → World → Prop}  {F0 : World → Prop} (hF : F0 w) (s0 : Steady F0) {T : Array Value} (hs : T.size = 123) (t0 : T[0]? = some (.slice fa na ca)) (t5 : T[5]? = some (.int .i64 (k + 1 : Nat))) (t6 : T[6]? = some (.nilFunc)) (t27 : T[27]? = some (.int .i64 (k + 1 : Nat))) (t28 : T[28]? = some (.nilFunc))
   (hgo : ∀ T w, F0 w → T.size = 123 → T[0]? = some (.slice fa na ca) → T[5]? = some (.int .i64 (k + 1 : Nat)) → T[6]? = some (.nilFunc) → Stop (G ((base 11).at ⟨#[.int .i64 (k + 1 : Nat), .nilFunc, seqV kl, undef, undef, undef, undef, undef, undef, undef, undef, undef, undef, undef, undef, undef, undef, undef, undef, undef, undef, undef, undef, undef, undef, undef, undef, undef, undef, undef, undef, undef, undef, undef, undef, undef, undef, undef, undef, undef, undef, undef, undef, undef, undef, undef, undef, undef, undef, undef, undef, undef, undef, undef, undef, undef, undef, undef, undef, undef, undef, undef, undef, undef], []⟩ [.code bodyM]) ((base 7).at ⟨T, []⟩ (.inRegion (cO (cF (tl7 4))) [4, 5, 6, 7, 8, 9] :: [.code (tl7 5)]) :: cs)) w) :
   Goes Try.prog true AtRel (SD Shun) Stop 60 (G ((base 7).at ⟨T.setIfInBounds 30 (seqV kl), []⟩ (.inRegion (cO (cF (tl7 4))) [4, 5, 6, 7, 8, 9] :: [.code (tl7 5)])) cs) w := by
 have hD : ∀ w, SD Shun w w #[] := sd_idle
 have rl : ∀ {w w₁ : World}, F0 w → AtRel w w₁ → F0 w₁ := fun h r => s0.rel h r
 replace hgo := Hd.mk hgo
 obtain ⟨v, rfl⟩ := array123 T hs
 simp only [List.getElem?_toArray, List.getElem?_cons_zero, List.getElem?_cons_succ, Option.some.injEq] at t0 t5 t6 t27 t28
 rw [t0, t5, t6, t27, t28]
 clear hs
 simp only [tl7, body7, cT, cO, cS, cF, cI, Try.f7, Option.getD_some, bodyM, Try.f11] at hgo ⊢
 try walk_nrm
 repeat ((first | ((with_reducible refine g_opG ?_); first | (refine g_unw hD rfl rfl ?_; intro _ h₁; replace hF := rl hF h₁; clear h₁; walk_nrm) | (refine Goes.step rfl ?_; intro _ h₁; replace hF := rl hF h₁; clear h₁; refine goes_oper_k rfl rfl (by k_ne) fun K hK => ?_; go_simp; refine hK _ _ ⟨?_, ?_⟩; (focus (refine g_idle hD ?_; intro e he; have hm := mem_listed he; simp [go_sem, *] at hm; done)); clear hK K; try w_num)) | ((first | ((with_reducible refine g_c (k' := ?_) true true hD ?_ ?_); rotate_left; focus exact rfl) | with_reducible refine g_r hD rfl ?_); intro _ h₁; replace hF := rl hF h₁; clear h₁)))
 ((with_reducible refine g_opG ?_); refine Goes.step rfl (fun _ h₁ => ?_); replace hF := rl hF h₁; clear h₁; refine goes_call rfl rfl (by k_ne) rfl Try.func11 rfl rfl ⟨hD _, ?_⟩; walk_nrmf Try.f11)
 exact Goes.stop fun w₃ h₃ => hgo.out _ _ (rl hF h₃) rfl rfl rfl rfl
set_option maxRecDepth 100000 in
theorem nc4 {Stop : Goroutine → World → Prop}  {F0 : World → Prop} (hF : F0 w) (s0 : Steady F0) {T : Array Value} (hs : T.size = 123) (t0 : T[0]? = some (.slice fa na ca)) (t5 : T[5]? = some (.int .i64 (k + 1 : Nat))) (t6 : T[6]? = some (.nilFunc))
   (hgo : ∀ T w, F0 w → T.size = 123 → T[0]? = some (.slice fa na ca) → T[5]? = some (.int .i64 (k + 1 : Nat)) → T[6]? = some (.nilFunc) → T[7]? = some (.slice none 0 0) → T[8]? = some (.int .i64 1) → T[35]? = some (.int .i64 (k + 1 : Nat)) → Stop (G ((base 12).at ⟨#[.int .u8 0, undef, undef, undef], []⟩ [.code body12]) ((base 7).at ⟨T, []⟩ (.inRegion (cO (cF (tl7 5))) [1, 2, 3, 4, 5, 6, 7] :: [.code (tl7 6)]) :: cs)) w) :
   Goes Try.prog true AtRel (SD Shun) Stop 60 (G ((base 7).at ⟨T.setIfInBounds 31 (.tuple #[.slice none 0 0, .int .i64 1]), []⟩ (.inRegion (cO (cF (tl7 4))) [5, 6, 7, 8, 9] :: [.code (tl7 5)])) cs) w := by
 have hD : ∀ w, SD Shun w w #[] := sd_idle
 have rl : ∀ {w w₁ : World}, F0 w → AtRel w w₁ → F0 w₁ := fun h r => s0.rel h r
 replace hgo := Hd.mk hgo
 obtain ⟨v, rfl⟩ := array123 T hs
 simp only [List.getElem?_toArray, List.getElem?_cons_zero, List.getElem?_cons_succ, Option.some.injEq] at t0 t5 t6
 rw [t0, t5, t6]
 clear hs
 simp only [tl7, body7, cT, cO, cS, cF, cI, Try.f7, Option.getD_some, body12, Try.f12] at hgo ⊢
 try walk_nrm
 repeat ((first | ((with_reducible refine g_opG ?_); first | (refine g_unw hD rfl rfl ?_; intro _ h₁; replace hF := rl hF h₁; clear h₁; walk_nrm) | (refine Goes.step rfl ?_; intro _ h₁; replace hF := rl hF h₁; clear h₁; refine goes_oper_k rfl rfl (by k_ne) fun K hK => ?_; go_simp; refine hK _ _ ⟨?_, ?_⟩; (focus (refine g_idle hD ?_; intro e he; have hm := mem_listed he; simp [go_sem, *] at hm; done)); clear hK K; try w_num)) | ((first | ((with_reducible refine g_c (k' := ?_) true true hD ?_ ?_); rotate_left; focus exact rfl) | with_reducible refine g_r hD rfl ?_); intro _ h₁; replace hF := rl hF h₁; clear h₁)))
 ((with_reducible refine g_opG ?_); refine Goes.step rfl (fun _ h₁ => ?_); replace hF := rl hF h₁; clear h₁; refine goes_call rfl rfl (by k_ne) rfl Try.func12 rfl rfl ⟨hD _, ?_⟩; walk_nrmf Try.f12)
 exact Goes.stop fun w₃ h₃ => hgo.out _ _ (rl hF h₃) rfl rfl rfl rfl rfl rfl rfl
set_option maxRecDepth 100000 in
theorem nc5 {Stop : Goroutine → World → Prop}  {F0 : World → Prop} (hF : F0 w) (s0 : Steady F0) {T : Array Value} (hs : T.size = 123) (t0 : T[0]? = some (.slice fa na ca)) (t5 : T[5]? = some (.int .i64 (k + 1 : Nat))) (t6 : T[6]? = some (.nilFunc)) (t7 : T[7]? = some (.slice none 0 0)) (t8 : T[8]? = some (.int .i64 1)) (t35 : T[35]? = some (.int .i64 (k + 1 : Nat)))
   (hgo : ∀ T w, F0 w → T.size = 123 → T[0]? = some (.slice fa na ca) → T[5]? = some (.int .i64 (k + 1 : Nat)) → T[6]? = some (.nilFunc) → T[7]? = some (.slice none 0 0) → T[8]? = some (.int .i64 1) → Stop (G ((base 11).at ⟨#[.int .i64 (k + 1 : Nat), fnV kb, .nilFunc, undef, undef, undef, undef, undef, undef, undef, undef, undef, undef, undef, undef, undef, undef, undef, undef, undef, undef, undef, undef, undef, undef, undef, undef, undef, undef, undef, undef, undef, undef, undef, undef, undef, undef, undef, undef, undef, undef, undef, undef, undef, undef, undef, undef, undef, undef, undef, undef, undef, undef, undef, undef, undef, undef, undef, undef, undef, undef, undef, undef, undef], []⟩ [.code bodyM]) ((base 7).at ⟨T, []⟩ (.inRegion (cO (cF (tl7 5))) [2, 3, 4, 5, 6, 7] :: [.code (tl7 6)]) :: cs)) w) :
   Goes Try.prog true AtRel (SD Shun) Stop 60 (G ((base 7).at ⟨T.setIfInBounds 36 (fnV kb), []⟩ (.inRegion (cO (cF (tl7 5))) [2, 3, 4, 5, 6, 7] :: [.code (tl7 6)])) cs) w := by
 have hD : ∀ w, SD Shun w w #[] := sd_idle
 have rl : ∀ {w w₁ : World}, F0 w → AtRel w w₁ → F0 w₁ := fun h r => s0.rel h r
 replace hgo := Hd.mk hgo
 obtain ⟨v, rfl⟩ := array123 T hs
 simp only [List.getElem?_toArray, List.getElem?_cons_zero, List.getElem?_cons_succ, Option.some.injEq] at t0 t5 t6 t7 t8 t35
 rw [t0, t5, t6, t7, t8, t35]
 clear hs
 simp only [tl7, body7, cT, cO, cS, cF, cI, Try.f7, Option.getD_some, bodyM, Try.f11] at hgo ⊢
 try walk_nrm
 repeat ((first | ((with_reducible refine g_opG ?_); first | (refine g_unw hD rfl rfl ?_; intro _ h₁; replace hF := rl hF h₁; clear h₁; walk_nrm) | (refine Goes.step rfl ?_; intro _ h₁; replace hF := rl hF h₁; clear h₁; refine goes_oper_k rfl rfl (by k_ne) fun K hK => ?_; go_simp; refine hK _ _ ⟨?_, ?_⟩; (focus (refine g_idle hD ?_; intro e he; have hm := mem_listed he; simp [go_sem, *] at hm; done)); clear hK K; try w_num)) | ((first | ((with_reducible refine g_c (k' := ?_) true true hD ?_ ?_); rotate_left; focus exact rfl) | with_reducible refine g_r hD rfl ?_); intro _ h₁; replace hF := rl hF h₁; clear h₁)))
 ((with_reducible refine g_opG ?_); refine Goes.step rfl (fun _ h₁ => ?_); replace hF := rl hF h₁; clear h₁; refine goes_call rfl rfl (by k_ne) rfl Try.func11 rfl rfl ⟨hD _, ?_⟩; walk_nrmf Try.f11)
 exact Goes.stop fun w₃ h₃ => hgo.out _ _ (rl hF h₃) rfl rfl rfl rfl rfl rfl
set_option maxRecDepth 100000 in
theorem nc6 {Stop : Goroutine → World → Prop}  {F0 : World → Prop} (hF : F0 w) (s0 : Steady F0) {T : Array Value} (hs : T.size = 123) (t0 : T[0]? = some (.slice fa na ca)) (t5 : T[5]? = some (.int .i64 (k + 1 : Nat))) (t6 : T[6]? = some (.nilFunc)) (t7 : T[7]? = some (.slice none 0 0)) (t8 : T[8]? = some (.int .i64 1))
   (hgo : ∀ T w, F0 w → T.size = 123 → T[0]? = some (.slice fa na ca) → T[5]? = some (.int .i64 (k + 1 : Nat)) → T[6]? = some (.nilFunc) → T[7]? = some (.slice none 0 0) → T[8]? = some (.int .i64 1) → T[9]? = some (.slice none 0 0) → T[10]? = some (.int .i64 1) → Stop (G ((base 13).at ⟨#[.slice fa na ca, undef, undef, undef], []⟩ [.code body13]) ((base 7).at ⟨T, []⟩ (.inRegion (cO (cF (tl7 6))) [1, 2, 3, 4, 5, 6, 7, 8, 9, 10] :: [.code (tl7 7)]) :: cs)) w) :
   Goes Try.prog true AtRel (SD Shun) Stop 60 (G ((base 7).at ⟨T.setIfInBounds 37 (.tuple #[.slice none 0 0, .int .i64 1]), []⟩ (.inRegion (cO (cF (tl7 5))) [3, 4, 5, 6, 7] :: [.code (tl7 6)])) cs) w := by
 have hD : ∀ w, SD Shun w w #[] := sd_idle
 have rl : ∀ {w w₁ : World}, F0 w → AtRel w w₁ → F0 w₁ := fun h r => s0.rel h r
 replace hgo := Hd.mk hgo
 obtain ⟨v, rfl⟩ := array123 T hs
 simp only [List.getElem?_toArray, List.getElem?_cons_zero, List.getElem?_cons_succ, Option.some.injEq] at t0 t5 t6 t7 t8
 rw [t0, t5, t6, t7, t8]
 clear hs
 simp only [tl7, body7, cT, cO, cS, cF, cI, Try.f7, Option.getD_some, body13, Try.f13] at hgo ⊢
 try walk_nrm
 repeat ((first | ((with_reducible refine g_opG ?_); first | (refine g_unw hD rfl rfl ?_; intro _ h₁; replace hF := rl hF h₁; clear h₁; walk_nrm) | (refine Goes.step rfl ?_; intro _ h₁; replace hF := rl hF h₁; clear h₁; refine goes_oper_k rfl rfl (by k_ne) fun K hK => ?_; go_simp; refine hK _ _ ⟨?_, ?_⟩; (focus (refine g_idle hD ?_; intro e he; have hm := mem_listed he; simp [go_sem, *] at hm; done)); clear hK K; try w_num)) | ((first | ((with_reducible refine g_c (k' := ?_) true true hD ?_ ?_); rotate_left; focus exact rfl) | with_reducible refine g_r hD rfl ?_); intro _ h₁; replace hF := rl hF h₁; clear h₁)))
 ((with_reducible refine g_opG ?_); refine Goes.step rfl (fun _ h₁ => ?_); replace hF := rl hF h₁; clear h₁; refine goes_call rfl rfl (by k_ne) rfl Try.func13 rfl rfl ⟨hD _, ?_⟩; walk_nrmf Try.f13)
 exact Goes.stop fun w₃ h₃ => hgo.out _ _ (rl hF h₃) rfl rfl rfl rfl rfl rfl rfl rfl
set_option maxRecDepth 100000 in
theorem nc7 {Stop : Goroutine → World → Prop}  {F0 : World → Prop} (hF : F0 w) (s0 : Steady F0) {T : Array Value} (hs : T.size = 123) (t0 : T[0]? = some (.slice fa na ca)) (t5 : T[5]? = some (.int .i64 (k + 1 : Nat))) (t6 : T[6]? = some (.nilFunc)) (t7 : T[7]? = some (.slice none 0 0)) (t8 : T[8]? = some (.int .i64 1)) (t9 : T[9]? = some (.slice none 0 0)) (t10 : T[10]? = some (.int .i64 1))
   (hgo : ∀ T w, F0 w → T.size = 123 → T[0]? = some (.slice fa na ca) → T[5]? = some (.int .i64 (k + 1 : Nat)) → T[6]? = some (.nilFunc) → T[7]? = some (.slice none 0 0) → T[8]? = some (.int .i64 1) → T[9]? = some (.slice none 0 0) → T[10]? = some (.int .i64 1) → T[42]? = some (seqV kl) → Stop (G ((base 12).at ⟨#[.int .u8 0, undef, undef, undef], []⟩ [.code body12]) ((base 7).at ⟨T, []⟩ (.inRegion (cO (cF (tl7 6))) [2, 3, 4, 5, 6, 7, 8, 9, 10] :: [.code (tl7 7)]) :: cs)) w) :
   Goes Try.prog true AtRel (SD Shun) Stop 60 (G ((base 7).at ⟨T.setIfInBounds 42 (seqV kl), []⟩ (.inRegion (cO (cF (tl7 6))) [2, 3, 4, 5, 6, 7, 8, 9, 10] :: [.code (tl7 7)])) cs) w := by
 have hD : ∀ w, SD Shun w w #[] := sd_idle
 have rl : ∀ {w w₁ : World}, F0 w → AtRel w w₁ → F0 w₁ := fun h r => s0.rel h r
 replace hgo := Hd.mk hgo
 obtain ⟨v, rfl⟩ := array123 T hs
 simp only [List.getElem?_toArray, List.getElem?_cons_zero, List.getElem?_cons_succ, Option.some.injEq] at t0 t5 t6 t7 t8 t9 t10
 rw [t0, t5, t6, t7, t8, t9, t10]
 clear hs
 simp only [tl7, body7, cT, cO, cS, cF, cI, Try.f7, Option.getD_some, body12, Try.f12] at hgo ⊢
 try walk_nrm
 repeat ((first | ((with_reducible refine g_opG ?_); first | (refine g_unw hD rfl rfl ?_; intro _ h₁; replace hF := rl hF h₁; clear h₁; walk_nrm) | (refine Goes.step rfl ?_; intro _ h₁; replace hF := rl hF h₁; clear h₁; refine goes_oper_k rfl rfl (by k_ne) fun K hK => ?_; go_simp; refine hK _ _ ⟨?_, ?_⟩; (focus (refine g_idle hD ?_; intro e he; have hm := mem_listed he; simp [go_sem, *] at hm; done)); clear hK K; try w_num)) | ((first | ((with_reducible refine g_c (k' := ?_) true true hD ?_ ?_); rotate_left; focus exact rfl) | with_reducible refine g_r hD rfl ?_); intro _ h₁; replace hF := rl hF h₁; clear h₁)))
 ((with_reducible refine g_opG ?_); refine Goes.step rfl (fun _ h₁ => ?_); replace hF := rl hF h₁; clear h₁; refine goes_call rfl rfl (by k_ne) rfl Try.func12 rfl rfl ⟨hD _, ?_⟩; walk_nrmf Try.f12)
 exact Goes.stop fun w₃ h₃ => hgo.out _ _ (rl hF h₃) rfl rfl rfl rfl rfl rfl rfl rfl rfl
set_option maxRecDepth 100000 in
theorem nc8 {Stop : Goroutine → World → Prop}  {F0 : World → Prop} {F1 : Nat → World → Prop} (hF : F0 w) (s0 : Steady F0) (al1 : ∀ w, F0 w → F1 w.heap.size (w.alloc (.cells #[.func (.func 30) #[] #[ptr kb], .nilFunc] 28))) (s1 : ∀ g1, Steady (F1 g1)) {T : Array Value} (hs : T.size = 123) (t0 : T[0]? = some (.slice fa na ca)) (t5 : T[5]? = some (.int .i64 (k + 1 : Nat))) (t6 : T[6]? = some (.nilFunc)) (t7 : T[7]? = some (.slice none 0 0)) (t8 : T[8]? = some (.int .i64 1)) (t9 : T[9]? = some (.slice none 0 0)) (t10 : T[10]? = some (.int .i64 1)) (t42 : T[42]? = some (seqV kl))
   (hgo : ∀ g1 T w, (F1 g1) w → T.size = 123 → T[0]? = some (.slice fa na ca) → T[5]? = some (.int .i64 (k + 1 : Nat)) → T[6]? = some (.nilFunc) → T[7]? = some (.slice none 0 0) → T[8]? = some (.int .i64 1) → T[9]? = some (.slice none 0 0) → T[10]? = some (.int .i64 1) → Stop (G ((base 16).at ⟨#[seqV kl, .slice (some ⟨g1, 0, none⟩) 2 2, undef, undef, undef, undef, undef, undef, undef, undef, undef, undef, undef, undef, undef, undef, undef, undef, undef, undef, undef, undef, undef, undef, undef, undef, undef, undef, undef, undef, undef, undef, undef, undef, undef, undef, undef, undef, undef, undef, undef, undef, undef, undef, undef, undef, undef, undef, undef], []⟩ [.code body16]) ((base 7).at ⟨T, []⟩ (.inRegion (cO (cF (tl7 6))) [5, 6, 7, 8, 9, 10] :: [.code (tl7 7)]) :: cs)) w) :
   Goes Try.prog true AtRel (SD Shun) Stop 60 (G ((base 7).at ⟨T.setIfInBounds 43 (fnV kb), []⟩ (.inRegion (cO (cF (tl7 6))) [3, 4, 5, 6, 7, 8, 9, 10] :: [.code (tl7 7)])) cs) w := by
 have hD : ∀ w, SD Shun w w #[] := sd_idle
 have rl : ∀ {w w₁ : World}, F0 w → AtRel w w₁ → F0 w₁ := fun h r => s0.rel h r
 replace hgo := Hd.mk hgo
 replace al1 := Hd.mk al1
 replace s1 := Hd.mk s1
 obtain ⟨v, rfl⟩ := array123 T hs
 simp only [List.getElem?_toArray, List.getElem?_cons_zero, List.getElem?_cons_succ, Option.some.injEq] at t0 t5 t6 t7 t8 t9 t10 t42
 rw [t0, t5, t6, t7, t8, t9, t10, t42]
 clear hs
 simp only [tl7, body7, cT, cO, cS, cF, cI, Try.f7, Option.getD_some, body16, Try.f16] at hgo ⊢
 simp only [fnV]
 try walk_nrm
 repeat ((first | ((with_reducible refine g_opG ?_); first | (refine g_unw hD rfl rfl ?_; intro _ h₁; replace hF := rl hF h₁; clear h₁; walk_nrm) | (refine Goes.step rfl ?_; intro _ h₁; replace hF := rl hF h₁; clear h₁; refine goes_oper_k rfl rfl (by k_ne) fun K hK => ?_; go_simp; refine hK _ _ ⟨?_, ?_⟩; (focus (refine g_idle hD ?_; intro e he; have hm := mem_listed he; simp [go_sem, *] at hm; done)); clear hK K; try w_num)) | ((first | ((with_reducible refine g_c (k' := ?_) true true hD ?_ ?_); rotate_left; focus exact rfl) | with_reducible refine g_r hD rfl ?_); intro _ h₁; replace hF := rl hF h₁; clear h₁)))
 refine Goes.step rfl fun w₁ h₁ => ?_
 replace hF := rl hF h₁
 clear h₁
 refine goes_oper_k rfl rfl (by decide) (fun K hK => ?_)
 go_simp
 refine hK _ _ ⟨sd_new (by simp) (fun e he => ?_), ?_⟩
 · have hm := mem_listed he
   simp [go_sem] at hm
 clear hK K
 replace hF := al1.out _ hF
 generalize w₁.alloc (.cells #[.func (.func 30) #[] #[ptr kb], .nilFunc] 28) = w₂ at hF ⊢
 generalize w₁.heap.size = g1 at hF ⊢
 clear w₁ rl
 have rl : ∀ {w w₁ : World}, F1 g1 w → AtRel w w₁ → F1 g1 w₁ := fun h r => (s1.out _ ).rel h r
 try walk_nrm
 repeat ((first | ((with_reducible refine g_opG ?_); first | (refine g_unw hD rfl rfl ?_; intro _ h₁; replace hF := rl hF h₁; clear h₁; walk_nrm) | (refine Goes.step rfl ?_; intro _ h₁; replace hF := rl hF h₁; clear h₁; refine goes_oper_k rfl rfl (by k_ne) fun K hK => ?_; go_simp; refine hK _ _ ⟨?_, ?_⟩; (focus (refine g_idle hD ?_; intro e he; have hm := mem_listed he; simp [go_sem, *] at hm; done)); clear hK K; try w_num)) | ((first | ((with_reducible refine g_c (k' := ?_) true true hD ?_ ?_); rotate_left; focus exact rfl) | with_reducible refine g_r hD rfl ?_); intro _ h₁; replace hF := rl hF h₁; clear h₁)))
 ((with_reducible refine g_opG ?_); refine Goes.step rfl (fun _ h₁ => ?_); replace hF := rl hF h₁; clear h₁; refine goes_call rfl rfl (by k_ne) rfl Try.func16 rfl rfl ⟨hD _, ?_⟩; walk_nrmf Try.f16)
 exact Goes.stop fun w₃ h₃ => hgo.out _ _ _ (rl hF h₃) rfl rfl rfl rfl rfl rfl rfl rfl
set_option maxRecDepth 100000 in
theorem nc9 {Stop : Goroutine → World → Prop}  {F0 : World → Prop} (hF : F0 w) (s0 : Steady F0) {T : Array Value} (hs : T.size = 123) (t0 : T[0]? = some (.slice fa na ca)) (t5 : T[5]? = some (.int .i64 (k + 1 : Nat))) (t6 : T[6]? = some (.nilFunc)) (t7 : T[7]? = some (.slice none 0 0)) (t8 : T[8]? = some (.int .i64 1)) (t9 : T[9]? = some (.slice none 0 0)) (t10 : T[10]? = some (.int .i64 1))
   (hgo : ∀ T w, F0 w → T.size = 123 → T[0]? = some (.slice fa na ca) → T[5]? = some (.int .i64 (k + 1 : Nat)) → T[6]? = some (.nilFunc) → T[7]? = some (.slice none 0 0) → T[8]? = some (.int .i64 1) → T[9]? = some (.slice none 0 0) → T[10]? = some (.int .i64 1) → T[11]? = some (.slice none 0 0) → T[12]? = some (.int .i64 1) → Stop (G ((base 12).at ⟨#[.int .u8 0, undef, undef, undef], []⟩ [.code body12]) ((base 7).at ⟨T, []⟩ (.inRegion (cO (cF (tl7 7))) [0, 1, 2, 3, 4, 5, 6, 7] :: [.code (tl7 8)]) :: cs)) w) :
   Goes Try.prog true AtRel (SD Shun) Stop 60 (G ((base 7).at ⟨T.setIfInBounds 46 (.tuple #[.slice none 0 0, .int .i64 1]), []⟩ (.inRegion (cO (cF (tl7 6))) [6, 7, 8, 9, 10] :: [.code (tl7 7)])) cs) w := by
 have hD : ∀ w, SD Shun w w #[] := sd_idle
 have rl : ∀ {w w₁ : World}, F0 w → AtRel w w₁ → F0 w₁ := fun h r => s0.rel h r
 replace hgo := Hd.mk hgo
 obtain ⟨v, rfl⟩ := array123 T hs
 simp only [List.getElem?_toArray, List.getElem?_cons_zero, List.getElem?_cons_succ, Option.some.injEq] at t0 t5 t6 t7 t8 t9 t10
 rw [t0, t5, t6, t7, t8, t9, t10]
 clear hs
 simp only [tl7, body7, cT, cO, cS, cF, cI, Try.f7, Option.getD_some, body12, Try.f12] at hgo ⊢
 try walk_nrm
 repeat ((first | ((with_reducible refine g_opG ?_); first | (refine g_unw hD rfl rfl ?_; intro _ h₁; replace hF := rl hF h₁; clear h₁; walk_nrm) | (refine Goes.step rfl ?_; intro _ h₁; replace hF := rl hF h₁; clear h₁; refine goes_oper_k rfl rfl (by k_ne) fun K hK => ?_; go_simp; refine hK _ _ ⟨?_, ?_⟩; (focus (refine g_idle hD ?_; intro e he; have hm := mem_listed he; simp [go_sem, *] at hm; done)); clear hK K; try w_num)) | ((first | ((with_reducible refine g_c (k' := ?_) true true hD ?_ ?_); rotate_left; focus exact rfl) | with_reducible refine g_r hD rfl ?_); intro _ h₁; replace hF := rl hF h₁; clear h₁)))
 ((with_reducible refine g_opG ?_); refine Goes.step rfl (fun _ h₁ => ?_); replace hF := rl hF h₁; clear h₁; refine goes_call rfl rfl (by k_ne) rfl Try.func12 rfl rfl ⟨hD _, ?_⟩; walk_nrmf Try.f12)
 exact Goes.stop fun w₃ h₃ => hgo.out _ _ (rl hF h₃) rfl rfl rfl rfl rfl rfl rfl rfl rfl rfl
set_option maxRecDepth 100000 in
theorem nc10 {Stop : Goroutine → World → Prop}  {F0 : World → Prop} {F1 : Nat → World → Prop} (hF : F0 w) (s0 : Steady F0) (al1 : ∀ w, F0 w → F1 w.heap.size (w.alloc (.cells #[.func (.func 30) #[] #[ptr kb]] 28))) (s1 : ∀ g1, Steady (F1 g1)) {T : Array Value} (hs : T.size = 123) (t0 : T[0]? = some (.slice fa na ca)) (t5 : T[5]? = some (.int .i64 (k + 1 : Nat))) (t6 : T[6]? = some (.nilFunc)) (t7 : T[7]? = some (.slice none 0 0)) (t8 : T[8]? = some (.int .i64 1)) (t9 : T[9]? = some (.slice none 0 0)) (t10 : T[10]? = some (.int .i64 1)) (t11 : T[11]? = some (.slice none 0 0)) (t12 : T[12]? = some (.int .i64 1))
   (hgo : ∀ g1 T w, (F1 g1) w → T.size = 123 → T[0]? = some (.slice fa na ca) → T[5]? = some (.int .i64 (k + 1 : Nat)) → T[6]? = some (.nilFunc) → T[7]? = some (.slice none 0 0) → T[8]? = some (.int .i64 1) → T[9]? = some (.slice none 0 0) → T[10]? = some (.int .i64 1) → T[11]? = some (.slice none 0 0) → T[12]? = some (.int .i64 1) → Stop (G ((base 16).at ⟨#[.nilFunc, .slice (some ⟨g1, 0, none⟩) 1 1, undef, undef, undef, undef, undef, undef, undef, undef, undef, undef, undef, undef, undef, undef, undef, undef, undef, undef, undef, undef, undef, undef, undef, undef, undef, undef, undef, undef, undef, undef, undef, undef, undef, undef, undef, undef, undef, undef, undef, undef, undef, undef, undef, undef, undef, undef, undef], []⟩ [.code body16]) ((base 7).at ⟨T, []⟩ (.inRegion (cO (cF (tl7 7))) [2, 3, 4, 5, 6, 7] :: [.code (tl7 8)]) :: cs)) w) :
   Goes Try.prog true AtRel (SD Shun) Stop 60 (G ((base 7).at ⟨T.setIfInBounds 50 (fnV kb), []⟩ (.inRegion (cO (cF (tl7 7))) [1, 2, 3, 4, 5, 6, 7] :: [.code (tl7 8)])) cs) w := by
 have hD : ∀ w, SD Shun w w #[] := sd_idle
 have rl : ∀ {w w₁ : World}, F0 w → AtRel w w₁ → F0 w₁ := fun h r => s0.rel h r
 replace hgo := Hd.mk hgo
 replace al1 := Hd.mk al1
 replace s1 := Hd.mk s1
 obtain ⟨v, rfl⟩ := array123 T hs
 simp only [List.getElem?_toArray, List.getElem?_cons_zero, List.getElem?_cons_succ, Option.some.injEq] at t0 t5 t6 t7 t8 t9 t10 t11 t12
 rw [t0, t5, t6, t7, t8, t9, t10, t11, t12]
 clear hs
 simp only [tl7, body7, cT, cO, cS, cF, cI, Try.f7, Option.getD_some, body16, Try.f16] at hgo ⊢
 simp only [fnV]
 try walk_nrm
 repeat ((first | ((with_reducible refine g_opG ?_); first | (refine g_unw hD rfl rfl ?_; intro _ h₁; replace hF := rl hF h₁; clear h₁; walk_nrm) | (refine Goes.step rfl ?_; intro _ h₁; replace hF := rl hF h₁; clear h₁; refine goes_oper_k rfl rfl (by k_ne) fun K hK => ?_; go_simp; refine hK _ _ ⟨?_, ?_⟩; (focus (refine g_idle hD ?_; intro e he; have hm := mem_listed he; simp [go_sem, *] at hm; done)); clear hK K; try w_num)) | ((first | ((with_reducible refine g_c (k' := ?_) true true hD ?_ ?_); rotate_left; focus exact rfl) | with_reducible refine g_r hD rfl ?_); intro _ h₁; replace hF := rl hF h₁; clear h₁)))
 refine Goes.step rfl fun w₁ h₁ => ?_
 replace hF := rl hF h₁
 clear h₁
 refine goes_oper_k rfl rfl (by decide) (fun K hK => ?_)
 go_simp
 refine hK _ _ ⟨sd_new (by simp) (fun e he => ?_), ?_⟩
 · have hm := mem_listed he
   simp [go_sem] at hm
 clear hK K
 replace hF := al1.out _ hF
 generalize w₁.alloc (.cells #[.func (.func 30) #[] #[ptr kb]] 28) = w₂ at hF ⊢
 generalize w₁.heap.size = g1 at hF ⊢
 clear w₁ rl
 have rl : ∀ {w w₁ : World}, F1 g1 w → AtRel w w₁ → F1 g1 w₁ := fun h r => (s1.out _ ).rel h r
 try walk_nrm
 repeat ((first | ((with_reducible refine g_opG ?_); first | (refine g_unw hD rfl rfl ?_; intro _ h₁; replace hF := rl hF h₁; clear h₁; walk_nrm) | (refine Goes.step rfl ?_; intro _ h₁; replace hF := rl hF h₁; clear h₁; refine goes_oper_k rfl rfl (by k_ne) fun K hK => ?_; go_simp; refine hK _ _ ⟨?_, ?_⟩; (focus (refine g_idle hD ?_; intro e he; have hm := mem_listed he; simp [go_sem, *] at hm; done)); clear hK K; try w_num)) | ((first | ((with_reducible refine g_c (k' := ?_) true true hD ?_ ?_); rotate_left; focus exact rfl) | with_reducible refine g_r hD rfl ?_); intro _ h₁; replace hF := rl hF h₁; clear h₁)))
 ((with_reducible refine g_opG ?_); refine Goes.step rfl (fun _ h₁ => ?_); replace hF := rl hF h₁; clear h₁; refine goes_call rfl rfl (by k_ne) rfl Try.func16 rfl rfl ⟨hD _, ?_⟩; walk_nrmf Try.f16)
 exact Goes.stop fun w₃ h₃ => hgo.out _ _ _ (rl hF h₃) rfl rfl rfl rfl rfl rfl rfl rfl rfl rfl
set_option maxRecDepth 100000 in
theorem nc11 {Stop : Goroutine → World → Prop}  {F0 : World → Prop} (hF : F0 w) (s0 : Steady F0) {T : Array Value} (hs : T.size = 123) (t0 : T[0]? = some (.slice fa na ca)) (t5 : T[5]? = some (.int .i64 (k + 1 : Nat))) (t6 : T[6]? = some (.nilFunc)) (t7 : T[7]? = some (.slice none 0 0)) (t8 : T[8]? = some (.int .i64 1)) (t9 : T[9]? = some (.slice none 0 0)) (t10 : T[10]? = some (.int .i64 1)) (t11 : T[11]? = some (.slice none 0 0)) (t12 : T[12]? = some (.int .i64 1))
   (hgo : ∀ T w, F0 w → T.size = 123 → T[0]? = some (.slice fa na ca) → T[5]? = some (.int .i64 (k + 1 : Nat)) → T[6]? = some (.nilFunc) → T[7]? = some (.slice none 0 0) → T[8]? = some (.int .i64 1) → T[9]? = some (.slice none 0 0) → T[10]? = some (.int .i64 1) → T[11]? = some (.slice none 0 0) → T[12]? = some (.int .i64 1) → T[13]? = some (.slice none 0 0) → T[14]? = some (.int .i64 1) → T[56]? = some (.int .i64 (k + 1 : Nat)) → Stop (G ((base 13).at ⟨#[.slice fa na ca, undef, undef, undef], []⟩ [.code body13]) ((base 7).at ⟨T, []⟩ (.inRegion (cO (cF (tl7 8))) [2, 3, 4, 5, 6, 7, 8] :: [.code (tl7 9)]) :: cs)) w) :
   Goes Try.prog true AtRel (SD Shun) Stop 60 (G ((base 7).at ⟨T.setIfInBounds 52 (.tuple #[.slice none 0 0, .int .i64 1]), []⟩ (.inRegion (cO (cF (tl7 7))) [3, 4, 5, 6, 7] :: [.code (tl7 8)])) cs) w := by
 have hD : ∀ w, SD Shun w w #[] := sd_idle
 have rl : ∀ {w w₁ : World}, F0 w → AtRel w w₁ → F0 w₁ := fun h r => s0.rel h r
 replace hgo := Hd.mk hgo
 obtain ⟨v, rfl⟩ := array123 T hs
 simp only [List.getElem?_toArray, List.getElem?_cons_zero, List.getElem?_cons_succ, Option.some.injEq] at t0 t5 t6 t7 t8 t9 t10 t11 t12
 rw [t0, t5, t6, t7, t8, t9, t10, t11, t12]
 clear hs
 simp only [tl7, body7, cT, cO, cS, cF, cI, Try.f7, Option.getD_some, body13, Try.f13] at hgo ⊢
 try walk_nrm
 repeat ((first | ((with_reducible refine g_opG ?_); first | (refine g_unw hD rfl rfl ?_; intro _ h₁; replace hF := rl hF h₁; clear h₁; walk_nrm) | (refine Goes.step rfl ?_; intro _ h₁; replace hF := rl hF h₁; clear h₁; refine goes_oper_k rfl rfl (by k_ne) fun K hK => ?_; go_simp; refine hK _ _ ⟨?_, ?_⟩; (focus (refine g_idle hD ?_; intro e he; have hm := mem_listed he; simp [go_sem, *] at hm; done)); clear hK K; try w_num)) | ((first | ((with_reducible refine g_c (k' := ?_) true true hD ?_ ?_); rotate_left; focus exact rfl) | with_reducible refine g_r hD rfl ?_); intro _ h₁; replace hF := rl hF h₁; clear h₁)))
 ((with_reducible refine g_opG ?_); refine Goes.step rfl (fun _ h₁ => ?_); replace hF := rl hF h₁; clear h₁; refine goes_call rfl rfl (by k_ne) rfl Try.func13 rfl rfl ⟨hD _, ?_⟩; walk_nrmf Try.f13)
 exact Goes.stop fun w₃ h₃ => hgo.out _ _ (rl hF h₃) rfl rfl rfl rfl rfl rfl rfl rfl rfl rfl rfl rfl rfl
set_option maxRecDepth 100000 in
theorem nc12 {Stop : Goroutine → World → Prop}  {F0 : World → Prop} (hF : F0 w) (s0 : Steady F0) {T : Array Value} (hs : T.size = 123) (t0 : T[0]? = some (.slice fa na ca)) (t5 : T[5]? = some (.int .i64 (k + 1 : Nat))) (t6 : T[6]? = some (.nilFunc)) (t7 : T[7]? = some (.slice none 0 0)) (t8 : T[8]? = some (.int .i64 1)) (t9 : T[9]? = some (.slice none 0 0)) (t10 : T[10]? = some (.int .i64 1)) (t11 : T[11]? = some (.slice none 0 0)) (t12 : T[12]? = some (.int .i64 1)) (t13 : T[13]? = some (.slice none 0 0)) (t14 : T[14]? = some (.int .i64 1)) (t56 : T[56]? = some (.int .i64 (k + 1 : Nat)))
   (hgo : ∀ T w, F0 w → T.size = 123 → T[0]? = some (.slice fa na ca) → T[5]? = some (.int .i64 (k + 1 : Nat)) → T[6]? = some (.nilFunc) → T[7]? = some (.slice none 0 0) → T[8]? = some (.int .i64 1) → T[9]? = some (.slice none 0 0) → T[10]? = some (.int .i64 1) → T[11]? = some (.slice none 0 0) → T[12]? = some (.int .i64 1) → T[13]? = some (.slice none 0 0) → T[14]? = some (.int .i64 1) → Stop (G ((base 19).at ⟨#[.int .i64 (k + 1 : Nat), fn20, seqV kl, undef, undef, undef, undef, undef, undef, undef, undef, undef, undef, undef, undef, undef, undef, undef, undef, undef, undef, undef, undef, undef, undef, undef, undef, undef, undef, undef, undef, undef, undef, undef, undef, undef, undef, undef, undef, undef, undef, undef, undef, undef, undef, undef, undef, undef, undef, undef, undef, undef, undef, undef, undef, undef, undef, undef, undef, undef, undef, undef, undef, undef], []⟩ [.code MpT.bodyM]) ((base 7).at ⟨T, []⟩ (.inRegion (cO (cF (tl7 8))) [3, 4, 5, 6, 7, 8] :: [.code (tl7 9)]) :: cs)) w) :
   Goes Try.prog true AtRel (SD Shun) Stop 60 (G ((base 7).at ⟨T.setIfInBounds 58 (seqV kl), []⟩ (.inRegion (cO (cF (tl7 8))) [3, 4, 5, 6, 7, 8] :: [.code (tl7 9)])) cs) w := by
 have hD : ∀ w, SD Shun w w #[] := sd_idle
 have rl : ∀ {w w₁ : World}, F0 w → AtRel w w₁ → F0 w₁ := fun h r => s0.rel h r
 replace hgo := Hd.mk hgo
 obtain ⟨v, rfl⟩ := array123 T hs
 simp only [List.getElem?_toArray, List.getElem?_cons_zero, List.getElem?_cons_succ, Option.some.injEq] at t0 t5 t6 t7 t8 t9 t10 t11 t12 t13 t14 t56
 rw [t0, t5, t6, t7, t8, t9, t10, t11, t12, t13, t14, t56]
 clear hs
 simp only [tl7, body7, cT, cO, cS, cF, cI, Try.f7, Option.getD_some, MpT.bodyM, Try.f19] at hgo ⊢
 try walk_nrm
 repeat ((first | ((with_reducible refine g_opG ?_); first | (refine g_unw hD rfl rfl ?_; intro _ h₁; replace hF := rl hF h₁; clear h₁; walk_nrm) | (refine Goes.step rfl ?_; intro _ h₁; replace hF := rl hF h₁; clear h₁; refine goes_oper_k rfl rfl (by k_ne) fun K hK => ?_; go_simp; refine hK _ _ ⟨?_, ?_⟩; (focus (refine g_idle hD ?_; intro e he; have hm := mem_listed he; simp [go_sem, *] at hm; done)); clear hK K; try w_num)) | ((first | ((with_reducible refine g_c (k' := ?_) true true hD ?_ ?_); rotate_left; focus exact rfl) | with_reducible refine g_r hD rfl ?_); intro _ h₁; replace hF := rl hF h₁; clear h₁)))
 ((with_reducible refine g_opG ?_); refine Goes.step rfl (fun _ h₁ => ?_); replace hF := rl hF h₁; clear h₁; refine goes_call rfl rfl (by k_ne) rfl Try.func19 rfl rfl ⟨hD _, ?_⟩; walk_nrmf Try.f19)
 exact Goes.stop fun w₃ h₃ => hgo.out _ _ (rl hF h₃) rfl rfl rfl rfl rfl rfl rfl rfl rfl rfl rfl rfl
set_option maxRecDepth 100000 in
theorem nc13 {Stop : Goroutine → World → Prop}  {F0 : World → Prop} (hF : F0 w) (s0 : Steady F0) {T : Array Value} (hs : T.size = 123) (t0 : T[0]? = some (.slice fa na ca)) (t5 : T[5]? = some (.int .i64 (k + 1 : Nat))) (t6 : T[6]? = some (.nilFunc)) (t7 : T[7]? = some (.slice none 0 0)) (t8 : T[8]? = some (.int .i64 1)) (t9 : T[9]? = some (.slice none 0 0)) (t10 : T[10]? = some (.int .i64 1)) (t11 : T[11]? = some (.slice none 0 0)) (t12 : T[12]? = some (.int .i64 1)) (t13 : T[13]? = some (.slice none 0 0)) (t14 : T[14]? = some (.int .i64 1))
   (hgo : ∀ T w, F0 w → T.size = 123 → T[0]? = some (.slice fa na ca) → T[15]? = some (.slice fs na c2) → T[102]? = some (.int .i64 na) → T[103]? = some (.int .i64 0) → Stop (G ((base 7).at ⟨T, []⟩ [.code lp7, .inLoop lp7, .inBlock 0, .code (tl7 11)]) cs) w) :
   Goes Try.prog true AtRel (SD Shun) Stop 90 (G ((base 7).at ⟨T.setIfInBounds 59 (.tuple #[.slice fs na c2, .int .i64 0]), []⟩ (.inRegion (cO (cF (tl7 8))) [4, 5, 6, 7, 8] :: [.code (tl7 9)])) cs) w := by
 have hD : ∀ w, SD Shun w w #[] := sd_idle
 have rl : ∀ {w w₁ : World}, F0 w → AtRel w w₁ → F0 w₁ := fun h r => s0.rel h r
 replace hgo := Hd.mk hgo
 obtain ⟨v, rfl⟩ := array123 T hs
 simp only [List.getElem?_toArray, List.getElem?_cons_zero, List.getElem?_cons_succ, Option.some.injEq] at t0 t5 t6 t7 t8 t9 t10 t11 t12 t13 t14
 rw [t0, t5, t6, t7, t8, t9, t10, t11, t12, t13, t14]
 clear hs
 simp only [tl7, body7, cT, lp7, cO, cS, cF, cI, Try.f7, Option.getD_some] at hgo ⊢
 try walk_nrm
 repeat ((first | ((with_reducible refine g_opG ?_); first | (refine g_unw hD rfl rfl ?_; intro _ h₁; replace hF := rl hF h₁; clear h₁; walk_nrm) | (refine Goes.step rfl ?_; intro _ h₁; replace hF := rl hF h₁; clear h₁; refine goes_oper_k rfl rfl (by k_ne) fun K hK => ?_; go_simp; refine hK _ _ ⟨?_, ?_⟩; (focus (refine g_idle hD ?_; intro e he; have hm := mem_listed he; simp [go_sem, *] at hm; done)); clear hK K; try w_num)) | ((first | ((with_reducible refine g_c (k' := ?_) true false hD ?_ ?_); rotate_left; focus exact rfl) | with_reducible refine g_r hD rfl ?_); intro _ h₁; replace hF := rl hF h₁; clear h₁)))
 try (refine g_reg hD fun _ h₁ => ?_; replace hF := rl hF h₁; clear h₁)
 simp only [List.size_toArray, List.length_cons, List.length_nil, Nat.reduceAdd, Nat.zero_add, List.range, List.range.loop]
 repeat ((first | ((with_reducible refine g_opG ?_); first | (refine g_unw hD rfl rfl ?_; intro _ h₁; replace hF := rl hF h₁; clear h₁; walk_nrm) | (refine Goes.step rfl ?_; intro _ h₁; replace hF := rl hF h₁; clear h₁; refine goes_oper_k rfl rfl (by k_ne) fun K hK => ?_; go_simp; refine hK _ _ ⟨?_, ?_⟩; (focus (refine g_idle hD ?_; intro e he; have hm := mem_listed he; simp [go_sem, *] at hm; done)); clear hK K; try w_num)) | ((first | ((with_reducible refine g_c (k' := ?_) true false hD ?_ ?_); rotate_left; focus exact rfl) | with_reducible refine g_r hD rfl ?_); intro _ h₁; replace hF := rl hF h₁; clear h₁)))
 (first | ((with_reducible refine g_opG ?_); first | (refine g_unw hD rfl rfl ?_; intro _ h₁; replace hF := rl hF h₁; clear h₁; walk_nrm) | (refine Goes.step rfl ?_; intro _ h₁; replace hF := rl hF h₁; clear h₁; refine goes_oper_k rfl rfl (by k_ne) fun K hK => ?_; go_simp; refine hK _ _ ⟨?_, ?_⟩; (focus (refine g_idle hD ?_; intro e he; have hm := mem_listed he; simp [go_sem, *] at hm; done)); clear hK K; try w_num)) | ((first | ((with_reducible refine g_c (k' := ?_) true true hD ?_ ?_); rotate_left; focus exact rfl) | with_reducible refine g_r hD rfl ?_); intro _ h₁; replace hF := rl hF h₁; clear h₁))
 exact Goes.stop fun w₃ h₃ => hgo.out _ _ (rl hF h₃) rfl rfl rfl rfl rfl
set_option maxRecDepth 100000 in
theorem nc14 {Stop : Goroutine → World → Prop}  {F0 : World → Prop} (hF : F0 w) (s0 : Steady F0) {T : Array Value} (hs : T.size = 123) (t0 : T[0]? = some (.slice fa na ca)) (t15 : T[15]? = some (.slice fs na c2)) (t102 : T[102]? = some (.int .i64 na)) (t103 : T[103]? = some (.int .i64 na)) (hlt : decide (na < na) = false)
   (hgo : ∀ T w, F0 w → T.size = 123 → Stop (G ((base 10).at ⟨#[undef, undef, undef, undef, undef, undef, undef, undef, undef, undef, undef, undef, undef, undef, undef, undef, undef, undef, undef, undef, undef, undef, undef, undef, undef, undef, undef, undef, undef, undef, undef, undef, undef, undef, undef, undef, undef, undef, undef, undef, undef, undef, undef, undef, undef, undef, undef, undef, undef], []⟩ [.code body10]) ((base 7).at ⟨T, []⟩ (.inRegion (cO (cF (tl7 11))) [0, 1] :: [.code (cS (tl7 11))]) :: cs)) w) :
   Goes Try.prog true AtRel (SD Shun) Stop 60 (G ((base 7).at ⟨T, []⟩ [.code lp7, .inLoop lp7, .inBlock 0, .code (tl7 11)]) cs) w := by
 have hD : ∀ w, SD Shun w w #[] := sd_idle
 have rl : ∀ {w w₁ : World}, F0 w → AtRel w w₁ → F0 w₁ := fun h r => s0.rel h r
 replace hgo := Hd.mk hgo
 obtain ⟨v, rfl⟩ := array123 T hs
 simp only [List.getElem?_toArray, List.getElem?_cons_zero, List.getElem?_cons_succ, Option.some.injEq] at t0 t15 t102 t103
 rw [t0, t15, t102, t103]
 clear hs
 simp only [tl7, body7, cT, lp7, cO, cS, cF, cI, Try.f7, Option.getD_some, body10, Try.f10] at hgo ⊢
 try walk_nrm
 repeat ((first | ((with_reducible refine g_opG ?_); first | (refine g_unw hD rfl rfl ?_; intro _ h₁; replace hF := rl hF h₁; clear h₁; walk_nrm) | (refine Goes.step rfl ?_; intro _ h₁; replace hF := rl hF h₁; clear h₁; refine goes_oper_k rfl rfl (by k_ne) fun K hK => ?_; go_simp; refine hK _ _ ⟨?_, ?_⟩; (focus (refine g_idle hD ?_; intro e he; have hm := mem_listed he; simp [go_sem, *] at hm; done)); clear hK K; try w_num)) | ((first | ((with_reducible refine g_c (k' := ?_) true true hD ?_ ?_); rotate_left; focus exact rfl) | with_reducible refine g_r hD rfl ?_); intro _ h₁; replace hF := rl hF h₁; clear h₁)))
 ((with_reducible refine g_opG ?_); refine Goes.step rfl (fun _ h₁ => ?_); replace hF := rl hF h₁; clear h₁; refine goes_call rfl rfl (by k_ne) rfl Try.func10 rfl rfl ⟨hD _, ?_⟩; walk_nrmf Try.f10)
 exact Goes.stop fun w₃ h₃ => hgo.out _ _ (rl hF h₃) rfl
set_option maxRecDepth 100000 in
theorem nc15 {Stop : Goroutine → World → Prop}  {F0 : World → Prop} (hF : F0 w) (s0 : Steady F0) {T : Array Value} (hs : T.size = 123)
   (hgo : ∀ T k w, F0 w → T.size = 123 → T[4]? = some (.bool true) → Stop (G { (base 7).at ⟨T, []⟩ k with mode := .returning } []) w) :
   Goes Try.prog true AtRel (SD Shun) Stop 60 (G ((base 7).at ⟨T.setIfInBounds 122 (.bool true), []⟩ (.inRegion (cO (cF (tl7 11))) [1] :: [.code (cS (tl7 11))])) []) w := by
 have hD : ∀ w, SD Shun w w #[] := sd_idle
 have rl : ∀ {w w₁ : World}, F0 w → AtRel w w₁ → F0 w₁ := fun h r => s0.rel h r
 replace hgo := Hd.mk hgo
 obtain ⟨v, rfl⟩ := array123 T hs
 clear hs
 simp only [tl7, body7, cT, cO, cS, cF, cI, Try.f7, Option.getD_some] at hgo ⊢
 try walk_nrm
 repeat ((first | ((with_reducible refine g_opG ?_); first | (refine g_unw hD rfl rfl ?_; intro _ h₁; replace hF := rl hF h₁; clear h₁; walk_nrm) | (refine Goes.step rfl ?_; intro _ h₁; replace hF := rl hF h₁; clear h₁; refine goes_oper_k rfl rfl (by k_ne) fun K hK => ?_; go_simp; refine hK _ _ ⟨?_, ?_⟩; (focus (refine g_idle hD ?_; intro e he; have hm := mem_listed he; simp [go_sem, *] at hm; done)); clear hK K; try w_num)) | ((first | ((with_reducible refine g_c (k' := ?_) true true hD ?_ ?_); rotate_left; focus exact rfl) | with_reducible refine g_r hD rfl ?_); intro _ h₁; replace hF := rl hF h₁; clear h₁)))
 exact Goes.stop fun w₃ h₃ => hgo.out _ _ _ (rl hF h₃) rfl rfl
end
end Go.Proofs.Ytblpmdolclalnaa
