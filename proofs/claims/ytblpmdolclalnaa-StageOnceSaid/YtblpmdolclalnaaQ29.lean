/- The law StageOnce: its pieces behind the call of Map. Made by gen_ons.py. The law StageOnce, walked whole, goroutine 0 coming to its return with true. What every row's proof of this seat shares: slices among the arguments; the last step of a law that makes memory and turns none of the arguments'. -/
import Derived.Test.YtblpmdolclalnaaQ24
import Derived.Test.YtblpmdolclalnaaQ28
import Derived.Test.YtblpmdolclalnaaRows
import Derived.ProofKit
import Derived.OpenShut
import Derived.ChangeSlices
import Derived.SliceStrings
import Derived.WideShapes
import Derived.Conc.LeavingOf
import Derived.Conc.Holds
set_option maxHeartbeats 16000000
set_option linter.unusedSimpArgs false
set_option linter.unusedVariables false
namespace Go.Proofs.Ytblpmdolclalnaa
open Go.Conc Go.RowKit Go.Conc.Lib Go.ConcR.Gen Go.ConcN.Gen
noncomputable def lp8 : Code := cI (cI (cS (cF (tl8 8))))
section
variable {Shun : Nat → Prop} {w : World} {cs : List Frame} {n0 n k mm co i : Nat} {fo : Option Addr}
set_option maxRecDepth 100000 in
theorem oc1 {Stop : Goroutine → World → Prop}  {F0 : World → Prop} (hF : F0 w) (s0 : Steady F0) {T : Array Value} (hs : T.size = 77) (t2 : T[2]? = some (ptr n0)) (t5 : T[5]? = some (.int .i64 (k + 1 : Nat))) (t6 : T[6]? = some (ptr (n0 + 2))) (t7 : T[7]? = some (ptr (n0 + 3))) (t8 : T[8]? = some (ptr (n0 + 4))) (t9 : T[9]? = some (ptr (n0 + 5)))
   (hgo : ∀ T w, F0 w → T.size = 77 → T[2]? = some (ptr n0) → T[5]? = some (.int .i64 (k + 1 : Nat)) → T[6]? = some (ptr (n0 + 2)) → T[7]? = some (ptr (n0 + 3)) → T[8]? = some (ptr (n0 + 4)) → T[9]? = some (ptr (n0 + 5)) → T[12]? = some (.slice fo n co) → T[13]? = some (.int .i64 0) → Stop (G ((base 8).at ⟨T, []⟩ [.code (.region 7 ops8 true), .code (cS (cF (tl8 7))), .code (tl8 8)]) cs) w) :
   Goes Try.prog true AtRel (SD Shun) Stop 60 (G ((base 8).at ⟨T.setIfInBounds 28 (.tuple #[.slice fo n co, .int .i64 0]), []⟩ (.inRegion (cO (cF (tl8 6))) [4, 5, 6, 7, 8] :: [.code (tl8 7)])) cs) w := by
 have hD : ∀ w, SD Shun w w #[] := sd_idle
 have rl : ∀ {w w₁ : World}, F0 w → AtRel w w₁ → F0 w₁ := fun h r => s0.rel h r
 replace hgo := Hd.mk hgo
 obtain ⟨v, rfl⟩ := array77 T hs
 simp only [List.getElem?_toArray, List.getElem?_cons_zero, List.getElem?_cons_succ, Option.some.injEq] at t2 t5 t6 t7 t8 t9
 rw [t2, t5, t6, t7, t8, t9]
 clear hs
 simp only [tl8, body8, ops8, lp8, cO, cS, cF, cI, Try.f8, Option.getD_some] at hgo ⊢
 try walk_nrm
 repeat ((first | ((with_reducible refine g_opG ?_); first | (refine g_unw hD rfl rfl ?_; intro _ h₁; replace hF := rl hF h₁; clear h₁; walk_nrm) | (refine Goes.step rfl ?_; intro _ h₁; replace hF := rl hF h₁; clear h₁; refine goes_oper_k rfl rfl (by k_ne) fun K hK => ?_; go_simp; refine hK _ _ ⟨?_, ?_⟩; (focus (refine g_idle hD ?_; intro e he; have hm := mem_listed he; simp [go_sem, *] at hm; done)); clear hK K; try w_num)) | ((first | ((with_reducible refine g_c (k' := ?_) true false hD ?_ ?_); rotate_left; focus exact rfl) | with_reducible refine g_r hD rfl ?_); intro _ h₁; replace hF := rl hF h₁; clear h₁)))
 exact Goes.stop fun w₃ h₃ => hgo.out _ _ (rl hF h₃) rfl rfl rfl rfl rfl rfl rfl rfl rfl
set_option maxRecDepth 100000 in
theorem oc2 {Stop : Goroutine → World → Prop}  {F0 : World → Prop} (hF : F0 w) (s0 : Steady F0) {T : Array Value} (hs : T.size = 77) (t6 : T[6]? = some (ptr (n0 + 2))) (t12 : T[12]? = some (.slice fo n co)) (t56 : T[56]? = some (.bool false))
   (hgo : ∀ T w, F0 w → T.size = 77 → T[6]? = some (ptr (n0 + 2)) → T[12]? = some (.slice fo n co) → T[58]? = some (.int .i64 n) → T[59]? = some (.int .i64 0) → Stop (G ((base 8).at ⟨T, []⟩ [.code lp8, .inLoop lp8, .inBlock 0, .code (tl8 9)]) cs) w) :
   Goes Try.prog true AtRel (SD Shun) Stop 60 (G ((base 8).at ⟨T, []⟩ (.inRegion ops8 [] :: [.code (cS (cF (tl8 7))), .code (tl8 8)])) cs) w := by
 have hD : ∀ w, SD Shun w w #[] := sd_idle
 have rl : ∀ {w w₁ : World}, F0 w → AtRel w w₁ → F0 w₁ := fun h r => s0.rel h r
 replace hgo := Hd.mk hgo
 obtain ⟨v, rfl⟩ := array77 T hs
 simp only [List.getElem?_toArray, List.getElem?_cons_zero, List.getElem?_cons_succ, Option.some.injEq] at t6 t12 t56
 rw [t6, t12, t56]
 clear hs
 simp only [tl8, body8, ops8, lp8, cO, cS, cF, cI, Try.f8, Option.getD_some] at hgo ⊢
 try walk_nrm
 repeat ((first | ((with_reducible refine g_opG ?_); first | (refine g_unw hD rfl rfl ?_; intro _ h₁; replace hF := rl hF h₁; clear h₁; walk_nrm) | (refine Goes.step rfl ?_; intro _ h₁; replace hF := rl hF h₁; clear h₁; refine goes_oper_k rfl rfl (by k_ne) fun K hK => ?_; go_simp; refine hK _ _ ⟨?_, ?_⟩; (focus (refine g_idle hD ?_; intro e he; have hm := mem_listed he; simp [go_sem, *] at hm; done)); clear hK K; try w_num)) | ((first | ((with_reducible refine g_c (k' := ?_) true false hD ?_ ?_); rotate_left; focus exact rfl) | with_reducible refine g_r hD rfl ?_); intro _ h₁; replace hF := rl hF h₁; clear h₁)))
 (first | ((with_reducible refine g_opG ?_); first | (refine g_unw hD rfl rfl ?_; intro _ h₁; replace hF := rl hF h₁; clear h₁; walk_nrm) | (refine Goes.step rfl ?_; intro _ h₁; replace hF := rl hF h₁; clear h₁; refine goes_oper_k rfl rfl (by k_ne) fun K hK => ?_; go_simp; refine hK _ _ ⟨?_, ?_⟩; (focus (refine g_idle hD ?_; intro e he; have hm := mem_listed he; simp [go_sem, *] at hm; done)); clear hK K; try w_num)) | ((first | ((with_reducible refine g_c (k' := ?_) true true hD ?_ ?_); rotate_left; focus exact rfl) | with_reducible refine g_r hD rfl ?_); intro _ h₁; replace hF := rl hF h₁; clear h₁))
 exact Goes.stop fun w₃ h₃ => hgo.out _ _ (rl hF h₃) rfl rfl rfl rfl rfl
set_option maxRecDepth 100000 in
theorem oc4 {Stop : Goroutine → World → Prop}  {F0 : World → Prop} (hF : F0 w) (s0 : Steady F0) {T : Array Value} (hs : T.size = 77) (t6 : T[6]? = some (ptr (n0 + 2))) (t12 : T[12]? = some (.slice fo n co)) (t58 : T[58]? = some (.int .i64 n)) (t59 : T[59]? = some (.int .i64 n)) (hlt : decide (n < n) = false)
   (hgo : ∀ T w, F0 w → T.size = 77 → Stop (G ((base 10).at ⟨#[undef, undef, undef, undef, undef, undef, undef, undef, undef, undef, undef, undef, undef, undef, undef, undef, undef, undef, undef, undef, undef, undef, undef, undef, undef, undef, undef, undef, undef, undef, undef, undef, undef, undef, undef, undef, undef, undef, undef, undef, undef, undef, undef, undef, undef, undef, undef, undef, undef], []⟩ [.code body10]) ((base 8).at ⟨T, []⟩ (.inRegion (cO (cF (tl8 9))) [0, 1] :: [.code (cS (tl8 9))]) :: cs)) w) :
   Goes Try.prog true AtRel (SD Shun) Stop 60 (G ((base 8).at ⟨T, []⟩ [.code lp8, .inLoop lp8, .inBlock 0, .code (tl8 9)]) cs) w := by
 have hD : ∀ w, SD Shun w w #[] := sd_idle
 have rl : ∀ {w w₁ : World}, F0 w → AtRel w w₁ → F0 w₁ := fun h r => s0.rel h r
 replace hgo := Hd.mk hgo
 obtain ⟨v, rfl⟩ := array77 T hs
 simp only [List.getElem?_toArray, List.getElem?_cons_zero, List.getElem?_cons_succ, Option.some.injEq] at t6 t12 t58 t59
 rw [t6, t12, t58, t59]
 clear hs
 simp only [tl8, body8, ops8, lp8, cO, cS, cF, cI, Try.f8, Option.getD_some, body10, Try.f10] at hgo ⊢
 try walk_nrm
 repeat ((first | ((with_reducible refine g_opG ?_); first | (refine g_unw hD rfl rfl ?_; intro _ h₁; replace hF := rl hF h₁; clear h₁; walk_nrm) | (refine Goes.step rfl ?_; intro _ h₁; replace hF := rl hF h₁; clear h₁; refine goes_oper_k rfl rfl (by k_ne) fun K hK => ?_; go_simp; refine hK _ _ ⟨?_, ?_⟩; (focus (refine g_idle hD ?_; intro e he; have hm := mem_listed he; simp [go_sem, *] at hm; done)); clear hK K; try w_num)) | ((first | ((with_reducible refine g_c (k' := ?_) true true hD ?_ ?_); rotate_left; focus exact rfl) | with_reducible refine g_r hD rfl ?_); intro _ h₁; replace hF := rl hF h₁; clear h₁)))
 ((with_reducible refine g_opG ?_); refine Goes.step rfl (fun _ h₁ => ?_); replace hF := rl hF h₁; clear h₁; refine goes_call rfl rfl (by k_ne) rfl Try.func10 rfl rfl ⟨hD _, ?_⟩; walk_nrmf Try.f10)
 exact Goes.stop fun w₃ h₃ => hgo.out _ _ (rl hF h₃) rfl
set_option maxRecDepth 100000 in
theorem oc5 {Stop : Goroutine → World → Prop}  {F0 : World → Prop} (hF : F0 w) (s0 : Steady F0) {T : Array Value} (hs : T.size = 77)
   (hgo : ∀ T k w, F0 w → T.size = 77 → T[4]? = some (.bool true) → Stop (G { (base 8).at ⟨T, []⟩ k with mode := .returning } []) w) :
   Goes Try.prog true AtRel (SD Shun) Stop 60 (G ((base 8).at ⟨T.setIfInBounds 76 (.bool true), []⟩ (.inRegion (cO (cF (tl8 9))) [1] :: [.code (cS (tl8 9))])) []) w := by
 have hD : ∀ w, SD Shun w w #[] := sd_idle
 have rl : ∀ {w w₁ : World}, F0 w → AtRel w w₁ → F0 w₁ := fun h r => s0.rel h r
 replace hgo := Hd.mk hgo
 obtain ⟨v, rfl⟩ := array77 T hs
 clear hs
 simp only [tl8, body8, ops8, lp8, cO, cS, cF, cI, Try.f8, Option.getD_some] at hgo ⊢
 try walk_nrm
 repeat ((first | ((with_reducible refine g_opG ?_); first | (refine g_unw hD rfl rfl ?_; intro _ h₁; replace hF := rl hF h₁; clear h₁; walk_nrm) | (refine Goes.step rfl ?_; intro _ h₁; replace hF := rl hF h₁; clear h₁; refine goes_oper_k rfl rfl (by k_ne) fun K hK => ?_; go_simp; refine hK _ _ ⟨?_, ?_⟩; (focus (refine g_idle hD ?_; intro e he; have hm := mem_listed he; simp [go_sem, *] at hm; done)); clear hK K; try w_num)) | ((first | ((with_reducible refine g_c (k' := ?_) true true hD ?_ ?_); rotate_left; focus exact rfl) | with_reducible refine g_r hD rfl ?_); intro _ h₁; replace hF := rl hF h₁; clear h₁)))
 exact Goes.stop fun w₃ h₃ => hgo.out _ _ _ (rl hF h₃) rfl rfl
set_option maxRecDepth 100000 in
theorem oc3 {Stop : Goroutine → World → Prop} {F : World → Prop} (hF : F w) (st : Steady F) (hO : ∀ w, F w → OnF Shun n0 n mm fo w) (hi : i < n) (hn : n < 256) {T : Array Value} (hs : T.size = 77) (t6 : T[6]? = some (ptr (n0 + 2))) (t12 : T[12]? = some (.slice fo n co)) (t58 : T[58]? = some (.int .i64 n)) (t59 : T[59]? = some (.int .i64 i))
   (hgo : ∀ T w, F w → T.size = 77 → T[6]? = some (ptr (n0 + 2)) → T[12]? = some (.slice fo n co) → T[58]? = some (.int .i64 n) → T[59]? = some (.int .i64 (i + 1 : Nat)) → Stop (G ((base 8).at ⟨T, []⟩ [.code lp8, .inLoop lp8, .inBlock 0, .code (tl8 9)]) cs) w) :
   Goes Try.prog true AtRel (SD Shun) Stop 160 (G ((base 8).at ⟨T, []⟩ [.code lp8, .inLoop lp8, .inBlock 0, .code (tl8 9)]) cs) w := by
 have hD : ∀ w, SD Shun w w #[] := sd_idle
 have rl : ∀ {w w₁ : World}, F w → AtRel w w₁ → F w₁ := fun h r => st.rel h r
 replace hgo := Hd.mk hgo
 have hlt : decide ((i : Int) < (n : Int)) = true := decide_eq_true (by omega)
 have hlt' : decide (i < n) = true := decide_eq_true hi
 have hadd : IntKind.i64.wrap ((i : Int) + 1) = ((i + 1 : Nat) : Int) := by rw [IntKind.wrap_i64]; omega
 have hi0 : (0 : Int) ≤ (i : Int) := by omega
 have hi1 : (i : Int) < (n : Int) := by omega
 obtain ⟨bl, oo, rfl, hsb, _⟩ := (hO _ hF).ls i (.int .i64 (i : Nat)) (by simp [hi])
 have hel : ∀ w, F w → w.cell? ⟨bl, oo + i, none⟩ = some (.int .i64 (i : Nat)) := fun w h => by
   obtain ⟨bl', oo', e, _, hc⟩ := (hO _ h).ls i (.int .i64 (i : Nat)) (by simp [hi])
   cases e
   exact hc
 replace hel := Hd.mk hel
 obtain ⟨v, rfl⟩ := array77 T hs
 simp only [List.getElem?_toArray, List.getElem?_cons_zero, List.getElem?_cons_succ, Option.some.injEq] at t6 t12 t58 t59
 rw [t6, t12, t58, t59]
 clear hs t6 t12 t58 t59
 simp only [tl8, body8, lp8, cO, cS, cF, cI, Try.f8, Option.getD_some] at hgo ⊢
 repeat ((first | ((with_reducible refine g_opG ?_); first | (refine g_unw hD rfl rfl ?_; intro _ h₁; replace hF := rl hF h₁; clear h₁; walk_nrm) | (refine Goes.step rfl ?_; intro _ h₁; replace hF := rl hF h₁; clear h₁; refine goes_oper_k rfl rfl (by k_ne) fun K hK => ?_; go_simp; refine hK _ _ ⟨?_, ?_⟩; (focus (refine g_idle hD ?_; intro e he; have hm := mem_listed he; simp [go_sem, *] at hm; done)); clear hK K; try w_num)) | ((first | ((with_reducible refine g_c (k' := ?_) true true hD ?_ ?_); rotate_left; focus exact rfl) | with_reducible refine g_r hD rfl ?_); intro _ h₁; replace hF := rl hF h₁; clear h₁)))
 refine Goes.step rfl fun w₁ h₁ => ?_
 replace hF := rl hF h₁
 clear h₁
 refine goes_oper_k rfl rfl (by decide) (fun K hK => ?_)
 have h1 := hel.out _ hF
 go_simp
 refine hK _ _ ⟨sd_read fun e he => ?_, ?_⟩
 · have hm := mem_listed he
   simp [go_sem, h1] at hm
   exact ⟨_, _, _, hm, hsb, cell_lt h1⟩
 clear hK K h1
 try walk_nrm
 repeat ((first | ((with_reducible refine g_opG ?_); first | (refine g_unw hD rfl rfl ?_; intro _ h₁; replace hF := rl hF h₁; clear h₁; walk_nrm) | (refine Goes.step rfl ?_; intro _ h₁; replace hF := rl hF h₁; clear h₁; refine goes_oper_k rfl rfl (by k_ne) fun K hK => ?_; go_simp; refine hK _ _ ⟨?_, ?_⟩; (focus (refine g_idle hD ?_; intro e he; have hm := mem_listed he; simp [go_sem, *] at hm; done)); clear hK K; try w_num)) | ((first | ((with_reducible refine g_c (k' := ?_) true true hD ?_ ?_); rotate_left; focus exact rfl) | with_reducible refine g_r hD rfl ?_); intro _ h₁; replace hF := rl hF h₁; clear h₁)))
 refine Goes.step rfl fun w₁ h₁ => ?_
 replace hF := rl hF h₁
 clear h₁
 refine goes_oper_k rfl rfl (by decide) (fun K hK => ?_)
 have h1 := (hO _ hF).cb.2
 go_simp
 refine hK _ _ ⟨sd_read fun e he => ?_, ?_⟩
 · have hm := mem_listed he
   simp [go_sem, h1] at hm
   exact ⟨_, _, _, hm, (hO _ hF).cb.1, cell_lt h1⟩
 clear hK K h1
 try walk_nrm
 repeat ((first | ((with_reducible refine g_opG ?_); first | (refine g_unw hD rfl rfl ?_; intro _ h₁; replace hF := rl hF h₁; clear h₁; walk_nrm) | (refine Goes.step rfl ?_; intro _ h₁; replace hF := rl hF h₁; clear h₁; refine goes_oper_k rfl rfl (by k_ne) fun K hK => ?_; go_simp; refine hK _ _ ⟨?_, ?_⟩; (focus (refine g_idle hD ?_; intro e he; have hm := mem_listed he; simp [go_sem, *] at hm; done)); clear hK K; try w_num)) | ((first | ((with_reducible refine g_c (k' := ?_) true true hD ?_ ?_); rotate_left; focus exact rfl) | with_reducible refine g_r hD rfl ?_); intro _ h₁; replace hF := rl hF h₁; clear h₁)))
 refine Goes.mono (goes_bind (Stop := fun g w => Goes Try.prog true AtRel (SD Shun) Stop 70 g w) (m := 70) (n := 20) (fun w => ⟨w.drawn, rfl⟩) (fun _ _ h => h) (to_load (B := n0 + 1) (y := i) hD hF rl rfl rfl (by decide) rfl rfl fun w hF => ?_)) (by omega)
 refine Goes.mono (n := 61) (Goes.step rfl fun w₁ h₁ => ?_) (by omega)
 replace hF := rl hF h₁
 clear h₁
 rw [step_load ((hO _ hF).cc.2 i hi)]
 simp only [goes_go]
 refine ⟨sd_read fun e he => ?_, ?_⟩
 · simp only [List.mem_toArray, List.mem_cons, List.not_mem_nil, or_false] at he
   exact ⟨_, _, _, he, (hO _ hF).cc.1, cell_lt ((hO _ hF).cc.2 i hi)⟩
 refine (from_load hD hF rl rfl (m := 40) fun w hF => ?_).mono (by omega)
 walk_nrm
 repeat ((first | ((with_reducible refine g_opG ?_); first | (refine g_unw hD rfl rfl ?_; intro _ h₁; replace hF := rl hF h₁; clear h₁; walk_nrm) | (refine Goes.step rfl ?_; intro _ h₁; replace hF := rl hF h₁; clear h₁; refine goes_oper_k rfl rfl (by k_ne) fun K hK => ?_; go_simp; refine hK _ _ ⟨?_, ?_⟩; (focus (refine g_idle hD ?_; intro e he; have hm := mem_listed he; simp [go_sem, *] at hm; done)); clear hK K; try w_num)) | ((first | ((with_reducible refine g_c (k' := ?_) false true hD ?_ ?_); rotate_left; focus exact rfl) | with_reducible refine g_r hD rfl ?_); intro _ h₁; replace hF := rl hF h₁; clear h₁)))
 (first | ((with_reducible refine g_opG ?_); first | (refine g_unw hD rfl rfl ?_; intro _ h₁; replace hF := rl hF h₁; clear h₁; walk_nrm) | (refine Goes.step rfl ?_; intro _ h₁; replace hF := rl hF h₁; clear h₁; refine goes_oper_k rfl rfl (by k_ne) fun K hK => ?_; go_simp; refine hK _ _ ⟨?_, ?_⟩; (focus (refine g_idle hD ?_; intro e he; have hm := mem_listed he; simp [go_sem, *] at hm; done)); clear hK K; try w_num)) | ((first | ((with_reducible refine g_c (k' := ?_) true true hD ?_ ?_); rotate_left; focus exact rfl) | with_reducible refine g_r hD rfl ?_); intro _ h₁; replace hF := rl hF h₁; clear h₁))
 exact Goes.stop fun w₃ h₃ => hgo.out _ _ (rl hF h₃) rfl rfl rfl rfl rfl
theorem oc7 {Stop : Goroutine → World → Prop} {F : World → Prop} {K : List Item} (hF : F w) (st : Steady F) (hO : ∀ w, F w → OnF Shun n0 n mm fo w) (hn : n < 256) (hk : k < 16) (hm : mm ≤ k + 1) {T : Array Value} (hs : T.size = 77) (t2 : T[2]? = some (ptr n0)) (t5 : T[5]? = some (.int .i64 (k + 1 : Nat))) (t6 : T[6]? = some (ptr (n0 + 2))) (t7 : T[7]? = some (ptr (n0 + 3))) (t8 : T[8]? = some (ptr (n0 + 4))) (t9 : T[9]? = some (ptr (n0 + 5))) (t12 : T[12]? = some (.slice fo n co)) (t13 : T[13]? = some (.int .i64 0))
   (hend : ∀ T w, F w → T.size = 77 → T[6]? = some (ptr (n0 + 2)) → T[12]? = some (.slice fo n co) → T[56]? = some (.bool false) → Goes Try.prog true AtRel (SD Shun) Stop 60 (G ((base 8).at ⟨T, []⟩ (.inRegion ops8 [] :: K)) cs) w) :
   Goes Try.prog true AtRel (SD Shun) Stop 300 (G ((base 8).at ⟨T, []⟩ (.code (.region 7 ops8 true) :: K)) cs) w := by
 obtain ⟨v, rfl⟩ := array77 T hs
 simp only [List.getElem?_toArray, List.getElem?_cons_zero, List.getElem?_cons_succ, Option.some.injEq] at t2 t5 t6 t7 t8 t9 t12 t13
 rw [t2, t5, t6, t7, t8, t9, t12, t13]
 exact (reg8 (v := v) hF st hO hn hk hm fun w hF => hend _ w hF rfl rfl rfl rfl).mono (by omega)
end
end Go.Proofs.Ytblpmdolclalnaa
namespace Go.Proofs.Ytblpmdolclalnaa
open Go.Conc
open Go.ConcN (WgLive sumTo upd sumTo_congr)
/-! ### the data of the call of Map -/
def nums (n : Nat) : List Value := (List.range n).map fun x => Value.int .i64 (x : Nat)
def onceO (n0 n k : Nat) : OP := { bn := n0 + 3, bm := n0 + 4, bc := n0 + 1, n := n, K := k + 1 }
def onceQ (n0 n k : Nat) : MpP := { K := k + 1, n := n, c0 := n0 + 6 + 1, Wg := n0 + 6 + 3, nfuel := 100, fv := onceV (onceO n0 n k) (n0 + 2), phi := fun x => x, Xf := OX (onceO n0 n k) (n0 + 2), Sx := fun b => b = n0 + 2, okN := fun x => 0 ≤ x ∧ x < n }
def onceM (Shun : Nat → Prop) (w : World) (cs : List Frame) (n0 n k : Nat) : MpM where
 q := onceQ n0 n k
 L := (onceO n0 n k).lay
 In := InO (onceQ n0 n k) (onceO n0 n k)
 it := cntIt n0 (n0 + 5) n
 cs := cs
 Shun := Shun
 n0 := n0 + 6
 w0 := w
 inV := cntV n0 (n0 + 5)
 xs := nums n
 e8 := n0 + 6 + 2
 e4 := n0 + 6
theorem set_type {w : World} {b b' y : Nat} {v : Value} {c : Array Value} {t : TypeId} {f : Nat × Nat} (h : w.heap[b]? = some (.cells c t f)) : ∃ c' : Array Value, (w.setCell ⟨b', y, none⟩ v).heap[b]? = some (.cells c' t f) ∧ c'.size = c.size := by
 by_cases e : b = b'
 · subst e
   exact ⟨c.setIfInBounds y v, by unfold World.setCell; simp [Array.getElem?_modify, h], by simp⟩
 · exact ⟨c, (setCell_ne (a := ⟨b', y, none⟩) e).trans h, rfl⟩
theorem once_q (n0 n k : Nat) : OnceQ (onceQ n0 n k) (onceO n0 n k) (n0 + 2) where
 ok := {
   lean1 := ⟨fun w h b e => by cases e; exact cell_lt h.box, fun w b o v hb h => by
     have hb' : n0 + 2 ≠ b := fun e => hb e.symm
     obtain ⟨c1, h1⟩ := h.tn
     obtain ⟨c2, h2⟩ := h.tm
     obtain ⟨c3, h3, s3⟩ := h.tc
     obtain ⟨d1, g1, _⟩ := set_type (b' := b) (y := o) (v := v) h1
     obtain ⟨d2, g2, _⟩ := set_type (b' := b) (y := o) (v := v) h2
     obtain ⟨d3, g3, e3⟩ := set_type (b' := b) (y := o) (v := v) h3
     exact ⟨(cell?_eq (setCell_ne (a := ⟨b, o, none⟩) hb') 0).trans h.box, ⟨d1, g1⟩, ⟨d2, g2⟩, d3, g3, e3.trans s3⟩⟩
   firm := fun own Got Rd hs w w₁ r h => by
     obtain ⟨c1, h1⟩ := h.tn
     obtain ⟨c2, h2⟩ := h.tm
     obtain ⟨c3, h3, s3⟩ := h.tc
     obtain ⟨d1, g1, _⟩ := r.form _ _ _ _ h1
     obtain ⟨d2, g2, _⟩ := r.form _ _ _ _ h2
     obtain ⟨d3, g3, e3⟩ := r.form _ _ _ _ h3
     exact ⟨(r.cell (n0 + 2) 0 (cell_lt h.box) (.inr (.inr (hs _ rfl)))).trans h.box, ⟨d1, g1⟩, ⟨d2, g2⟩, d3, g3, e3.trans s3⟩ }
 fv := rfl
 phi _ := rfl
 xf _ h := h
 sx := rfl
 fuel := Nat.le_refl _
 okN _ h := h
section
variable {Shun : Nat → Prop} {w w0 : World} {cs : List Frame} {n0 n k : Nat} {Given : Cells}
theorem nums_get {i : Nat} (hi : i < n) : (nums n)[i]? = some (.int .i64 (i : Nat)) := by simp [nums, hi]
theorem onceM_ab {b : Nat} (h : (onceM Shun w cs n0 n k).L.AB b) : b = n0 + 3 ∨ b = n0 + 4 ∨ b = n0 + 1 := by
 obtain ⟨y, h | h | h⟩ := h
 · exact .inl h.1
 · exact .inr (.inl h.1)
 · exact .inr (.inr h.1)
theorem onceM_off {b : Nat} (hsh : ∀ b, Shun b → b < n0) (h : (onceM Shun w cs n0 n k).Off b) : b < n0 ∨ b = n0 + 3 ∨ b = n0 + 4 ∨ b = n0 + 1 ∨ b = n0 + 5 := by
 rcases h with (h | h) | h
 · exact .inl (hsh b h)
 · rcases onceM_ab h with e | e | e <;> simp [e]
 · have : n0 + 5 = b := Option.some.inj h
   omega
theorem onceM_low {b : Nat} (h : (onceM Shun w cs n0 n k).Off b) (hb : b < n0) : Shun b := by
 rcases h with (h | h) | h
 · exact h
 · rcases onceM_ab h with e | e | e <;> omega
 · have : n0 + 5 = b := Option.some.inj h
   omega
theorem onceM_ok (hsh : ∀ b, Shun b → b < n0) (hn : n < 256) (hk : k < 16) (hF : Fresh n0 w0 Given [.cells #[.int .u8 n] 5, .cells (Array.replicate n (.int .i32 0)) 53, .cells #[.slice (some ⟨n0 + 1, 0, none⟩) n n] 49, cnt32 0, cnt32 0, cnt32 0] w) : MpMOK (onceM Shun w cs n0 n k) where
 q := (once_q n0 n k).ok
 lay := OP.lay_ok ⟨by show n0 + 3 ≠ n0 + 4; omega, by show n0 + 3 ≠ n0 + 1; omega, by show n0 + 4 ≠ n0 + 1; omega⟩ rfl (by show k + 1 ≤ 16; omega) (by show n ≤ 900; omega) rfl (fun v hv => by
   obtain ⟨x, p, rfl, h0, h1⟩ := hv
   show x.toNat < n
   omega)
 kid := once_kid (once_q n0 n k)
 few := by show k + 1 ≤ 16; omega
 one := Nat.succ_pos k
 wg := Nat.le_add_right _ _
 c0 := Nat.le_add_right _ _
 e8 := Nat.le_add_right _ _
 e4 := Nat.le_refl _
 sx b hb := by
   have hb' : b = n0 + 2 := hb
   subst hb'
   exact ⟨by show n0 + 2 < n0 + 6; omega, fun h => by have := onceM_off hsh h; omega⟩
 ab b hb := by
   have := onceM_ab hb
   exact ⟨by show b < n0 + 6; omega, fun h => by have := hsh b h; omega⟩
 j0 p ci co e f := (⟨fun i hi => absurd hi (Nat.not_lt_zero i), fun x => rfl, Nat.zero_le _⟩ : OJ (onceO n0 n k) (.hire p ci co e) 0 f)
 cel b y hc := by
   have hc' : (b = n0 + 3 ∧ y = 0) ∨ (b = n0 + 4 ∧ y = 0) ∨ (b = n0 + 1 ∧ y < n) := hc
   rcases hc' with ⟨rfl, rfl⟩ | ⟨rfl, rfl⟩ | ⟨rfl, hy⟩
   · exact (hF.cell (i := 3) (z := .int .i32 (0 : Nat)) (t := 53) rfl).trans (congrArg some (if_pos rfl).symm)
   · exact (hF.cell (i := 4) (z := .int .i32 (0 : Nat)) (t := 53) rfl).trans (congrArg some ((if_neg (by show ¬ n0 + 4 = n0 + 3; omega)).trans (if_pos rfl)).symm)
   · have h1 := hF.obj 1 _ rfl
     have h2 : w.cell? ⟨n0 + 1, y, none⟩ = some (.int .i32 (0 : Nat)) := by
       simp only [World.cell?, h1]
       simp [hy]
     exact h2.trans (congrArg some ((if_neg (by show ¬ n0 + 1 = n0 + 3; omega)).trans (if_neg (by show ¬ n0 + 1 = n0 + 4; omega))).symm)
 v0 b hb := by
   have : n0 + 5 = b := Option.some.inj hb
   subst this
   exact hF.obj 5 _ rfl
 x0 w' h hf := by
   obtain ⟨c1, h1, _⟩ := hf (n0 + 3) _ _ _ (by show n0 + 3 < n0 + 6; omega) (hF.obj 3 _ rfl)
   obtain ⟨c2, h2, _⟩ := hf (n0 + 4) _ _ _ (by show n0 + 4 < n0 + 6; omega) (hF.obj 4 _ rfl)
   obtain ⟨c3, h3, s3⟩ := hf (n0 + 1) _ _ _ (by show n0 + 1 < n0 + 6; omega) (hF.obj 1 _ rfl)
   exact (⟨(h (n0 + 2) 0 rfl).trans (hF.cell (i := 2) rfl), ⟨c1, h1⟩, ⟨c2, h2⟩, c3, h3, by rw [s3]; simp [onceO]⟩ : OX (onceO n0 n k) (n0 + 2) w')
 it := cntIt_ok (kn := n0) (vb := n0 + 5) (n := n) ⟨rfl, rfl, ⟨by show n0 < n0 + 6; omega, fun h => by have := onceM_off hsh h; omega⟩, hF.cell (i := 0) rfl, hn, ⟨by simp [onceM, nums], fun i x hx => by
   have hi : i < n := by have := (List.getElem?_eq_some_iff.1 hx).1; simpa [onceM, nums] using this
   have e := nums_get hi
   have hx' : (nums n)[i]? = some (.int .i64 x) := hx
   rw [e] at hx'
   cases hx'
   rfl⟩, by show n0 + 5 < n0 + 6; omega, fun h => by
     rcases h with h | h
     · have := hsh _ h; omega
     · have := onceM_ab h; omega, fun h => by have : n0 + 5 = n0 + 2 := h; omega⟩
 xs := ⟨by simp [onceM, nums, onceQ], by show n ≤ 900000; omega, fun v hv => by
   obtain ⟨x, _, rfl⟩ := List.mem_map.1 hv
   exact ⟨_, rfl⟩, fun x hx => by
   obtain ⟨y, hy, e⟩ := List.mem_map.1 hx
   cases e
   have := List.mem_range.1 hy
   exact ⟨by omega, by omega⟩⟩
/-! ### what the counters hold at the end -/
theorem idxV_job (x : Int) (p : Nat) : idxV (.agg #[.int .i64 x, ptr p]) = x.toNat := rfl
theorem count_range (x : Nat) : ∀ n, (List.range n).count x = if x < n then 1 else 0
 | 0 => rfl
 | n + 1 => by
   rw [List.range_succ, List.count_append, count_range x n, List.count_singleton]
   by_cases e : n = x
   · subst e; simp
   · have : (n == x) = false := by simpa using e
     rw [this]
     by_cases h : x < n
     · simp [h, Nat.lt_succ_of_lt h]
     · have h' : ¬ x < n + 1 := by omega
       simp [h, h']
theorem idxs_jobs {ps : List Nat} (h : ps.length = n) : idxs (jobsL (nums n) ps) = List.range n := by
 refine List.ext_getElem? fun i => ?_
 by_cases hi : i < n
 · have h1 : i < ps.length := by omega
   simp [idxs, jobsL, List.getElem?_zipWith, nums, hi, List.getElem?_eq_getElem h1, idxV_job]
 · have : n ≤ i := by omega
   rw [List.getElem?_eq_none (by simp [idxs, jobsL, nums]; omega), List.getElem?_eq_none (by simp; omega)]
theorem sum_zero {f : Nat → Nat} : ∀ {j : Nat}, (∀ i, i < j → f i = 0) → sumTo j f = 0
 | 0, _ => rfl
 | j + 1, h => by simp only [sumTo]; rw [sum_zero fun i hi => h i (by omega), h j (by omega)]
theorem once_end (h : LEnd (onceM Shun w0 cs n0 n k) w) : ∃ mm : Nat, mm ≤ k + 1 ∧ w.cell? ⟨n0 + 3, 0, none⟩ = some (.int .i32 0) ∧ w.cell? ⟨n0 + 4, 0, none⟩ = some (.int .i32 mm) ∧ ∀ x, x < n → w.cell? ⟨n0 + 1, x, none⟩ = some (.int .i32 1) := by
 obtain ⟨ps, j, f, hps, hj, hJ, hid, hc⟩ := h
 have hJ' : OJ (onceO n0 n k) (.wait (jobsL (nums n) ps)) j f := hJ
 have hps' : ps.length = n := by simpa [onceM, nums] using hps
 have hidl : ∀ i, i < j → (f i).2.ph = .idle := fun i hi => isA_idle (hid i hi)
 have hne : (onceO n0 n k).bn ≠ (onceO n0 n k).bm ∧ (onceO n0 n k).bn ≠ (onceO n0 n k).bc ∧ (onceO n0 n k).bm ≠ (onceO n0 n k).bc := ⟨by show n0 + 3 ≠ n0 + 4; omega, by show n0 + 3 ≠ n0 + 1; omega, by show n0 + 4 ≠ n0 + 1; omega⟩
 refine ⟨mostOf j fun i => (f i).2, maxTo_le fun i hi => (hJ'.fit i hi).1, ?_, ?_, fun x hx => ?_⟩
 · refine (hc (n0 + 3) 0 (.inl ⟨rfl, rfl⟩)).trans (congrArg some ((val_n hne (fun i => (f i).2) 0).trans ?_))
   have e : (sumTo j fun i => (f i).2.ins) = 0 := sum_zero fun i hi => by unfold OA.ins; rw [hidl i hi]
   show i32 (sumTo j fun i => (f i).2.ins) = _
   rw [e]; rfl
 · exact (hc (n0 + 4) 0 (.inr (.inl ⟨rfl, rfl⟩))).trans (congrArg some (val_m hne (fun i => (f i).2) 0))
 · refine (hc (n0 + 1) x (.inr (.inr ⟨rfl, hx⟩))).trans (congrArg some ((val_c hne (fun i => (f i).2) x).trans ?_))
   have e1 : (sumTo j fun i => (f i).2.cnt.count x) = sumTo j fun i => (idxs (f i).1.got).count x := sumTo_congr fun i hi => by
     have hf := (hJ'.fit i hi).2
     rw [hidl i hi] at hf
     have hf' : idxs (f i).1.got = (f i).2.cnt := hf
     rw [hf']
   have e2 := hJ'.mult x
   show i32 (sumTo j fun i => (f i).2.cnt.count x) = _
   rw [e1, e2]
   show i32 ((idxs (jobsL (nums n) ps)).count x) = _
   rw [idxs_jobs hps', count_range, if_pos hx]
   rfl
theorem once_map {b₀ : Frame} {a₀ : Act} {ops₀ : Array Oper} {i₀ : Nat} {rest₀ : List Nat} {k₀ : List Item} (h66 : S66 Shun w0) (hn0 : n0 = w0.heap.size) (hn : n < 256) (hk : k < 16) (hF : Fresh n0 w0 (fun b _ => Shun b) [.cells #[.int .u8 n] 5, .cells (Array.replicate n (.int .i32 0)) 53, .cells #[.slice (some ⟨n0 + 1, 0, none⟩) n n] 49, cnt32 0, cnt32 0, cnt32 0] w) :
   Lone Try.prog n0 (fun S g w' => Keep Shun w0 S w' ∧ ∃ mm fo co, mm ≤ k + 1 ∧ OnF S n0 n mm fo w' ∧ g = G (b₀.at (a₀.put ((ops₀[i₀]?).bind (·.dst)) (.tuple #[.slice fo n co, .int .i64 0])) (.inRegion ops₀ rest₀ :: k₀)) cs) Shun
     (G ((base 11).at ⟨#[.int .i64 (k + 1 : Nat), .func (.func 23) #[] #[ptr (n0 + 3), ptr (n0 + 4), ptr (n0 + 2)], .func (.func 21) #[] #[ptr n0, ptr (n0 + 5)], undef, undef, undef, undef, undef, undef, undef, undef, undef, undef, undef, undef, undef, undef, undef, undef, undef, undef, undef, undef, undef, undef, undef, undef, undef, undef, undef, undef, undef, undef, undef, undef, undef, undef, undef, undef, undef, undef, undef, undef, undef, undef, undef, undef, undef, undef, undef, undef, undef, undef, undef, undef, undef, undef, undef, undef, undef, undef, undef, undef, undef], []⟩ [.code bodyM]) (b₀.at a₀ (.inRegion ops₀ (i₀ :: rest₀) :: k₀) :: cs)) w := by
 have hsh : ∀ b, Shun b → b < n0 := fun b hb => hn0 ▸ h66.lt hb
 have hm := onceM_ok (cs := (b₀.at a₀ (.inRegion ops₀ (i₀ :: rest₀) :: k₀) :: cs)) hsh hn hk hF
 have hsz : w.heap.size = n0 + 6 := hF.size
 refine ((map_call hm rfl hsz rfl rfl rfl rfl (fun b hb => Nat.lt_of_lt_of_le (hsh b hb) (Nat.le_add_right n0 6)) rfl rfl).low (Nat.le_add_right n0 6)).imp fun S g w' _ h => ?_
 obtain ⟨hS, v, hR, rfl⟩ := h
 have hoff : ∀ b, b < n0 → (onceM Shun w (b₀.at a₀ (.inRegion ops₀ (i₀ :: rest₀) :: k₀) :: cs) n0 n k).Off b → Shun b := fun b hb h => onceM_low h hb
 have hout : Out (n0 + 6) w (fun b _ => (onceM Shun w (b₀.at a₀ (.inRegion ops₀ (i₀ :: rest₀) :: k₀) :: cs) n0 n k).Off b) w' := hR.out
 have ho : Out w0.heap.size w0 (fun b _ => Shun b) w' := by
   rw [← hn0]
   refine ⟨Nat.le_trans (Nat.le_add_right _ _) hout.size, fun b x hb hg => (hout.cell b x (by omega) fun h => hg (hoff b hb h)).trans (hF.out.cell b x hb hg), fun b hb hg => (hout.blk b (by omega) fun _ h => hg 0 (hoff b hb h)).trans (hF.out.blk b hb hg), fun b c e f hb hc => ?_, hout.os.trans hF.out.os, hout.out.trans hF.out.out, hout.tape.trans hF.out.tape⟩
   obtain ⟨c1, h1, s1⟩ := hF.out.form b c e f hb hc
   obtain ⟨c2, h2, s2⟩ := hout.form b c1 e f (by omega) h1
   exact ⟨c2, h2, s2.trans s1⟩
 have hS' : ∀ b, S b → Shun b ∨ b = n0 + 6 + 3 := hS
 have hs66 : S66 S w' := s66_of h66 ho hR.live hS'
 have hns : ∀ b, n0 ≤ b → b < n0 + 6 → ¬ S b := fun b h1 h2 h => by
   rcases hS' b h with x | x
   · have := hsh b x; omega
   · omega
 obtain ⟨mm, hmm, c3, c4, c1⟩ := once_end hR.lend
 have hV : w'.heap[n0 + 5]? = some (cnt32 n) := by
   have := hR.vis (n0 + 5) rfl
   have e : (onceM Shun w (b₀.at a₀ (.inRegion ops₀ (i₀ :: rest₀) :: k₀) :: cs) n0 n k).xs.length = n := by simp [onceM, nums]
   rw [e] at this
   exact this
 have hrow : w'.ownsRow 0 3 1 v n (nums n) := by
   have := hR.row
   have e1 : (onceM Shun w (b₀.at a₀ (.inRegion ops₀ (i₀ :: rest₀) :: k₀) :: cs) n0 n k).xs.length = n := by simp [onceM, nums]
   have e2 : (onceM Shun w (b₀.at a₀ (.inRegion ops₀ (i₀ :: rest₀) :: k₀) :: cs) n0 n k).xs.map (mapV (onceM Shun w (b₀.at a₀ (.inRegion ops₀ (i₀ :: rest₀) :: k₀) :: cs) n0 n k).q.phi) = nums n := by simp [onceM, nums, mapV, onceQ, Function.comp_def]
   rw [e1, e2] at this
   exact this
 obtain ⟨fo, co, rfl⟩ : ∃ fo co, v = .slice fo n co := by
   rcases hrow.2 with ⟨e, h0⟩ | ⟨g, c, cur, e, _⟩
   · exact ⟨none, 0, by rw [h0]; exact e⟩
   · exact ⟨_, c, e⟩
 have cell : ∀ b x v, b < n0 + 6 → ¬ (onceM Shun w (b₀.at a₀ (.inRegion ops₀ (i₀ :: rest₀) :: k₀) :: cs) n0 n k).Off b → w.cell? ⟨b, x, none⟩ = some v → w'.cell? ⟨b, x, none⟩ = some v := fun b x v hb hn hv => (hout.cell b x hb hn).trans hv
 refine ⟨⟨fun b hb => (hS' b hb).imp id fun e => by omega, ho, hs66⟩, mm, fo, co, hmm, ⟨⟨hns n0 (Nat.le_refl _) (by omega), cell n0 0 _ (by omega) (fun h => by have := onceM_off hsh h; omega) (hF.cell (i := 0) rfl)⟩,
   ⟨hns _ (by omega) (by omega), by unfold World.cell?; rw [hV]; rfl⟩, ⟨hns _ (by omega) (by omega), c4⟩, ⟨hns _ (by omega) (by omega), c3⟩, ⟨hns _ (by omega) (by omega), cell (n0 + 2) 0 _ (by omega) (fun h => by have := onceM_off hsh h; omega) (hF.cell (i := 2) rfl)⟩,
   ⟨hns _ (by omega) (by omega), c1⟩, Ls.row hrow (by decide) hs66⟩, rfl⟩
theorem once_loop {Q : (Nat → Prop) → Goroutine → World → Prop} {N0 mm co : Nat} {fo : Option Addr} {F : World → Prop} (st : Steady F) (hO : ∀ w, F w → OnF Shun n0 n mm fo w) (hn : n < 256)
   (hgo : ∀ T w, F w → T.size = 77 → T[6]? = some (ptr (n0 + 2)) → T[12]? = some (.slice fo n co) → T[58]? = some (.int .i64 n) → T[59]? = some (.int .i64 n) → Lone Try.prog N0 Q Shun (G ((base 8).at ⟨T, []⟩ [.code lp8, .inLoop lp8, .inBlock 0, .code (tl8 9)]) cs) w) :
   ∀ (m i : Nat) (T : Array Value) (w : World), i + m = n → F w → T.size = 77 → T[6]? = some (ptr (n0 + 2)) → T[12]? = some (.slice fo n co) → T[58]? = some (.int .i64 n) → T[59]? = some (.int .i64 i) → Lone Try.prog N0 Q Shun (G ((base 8).at ⟨T, []⟩ [.code lp8, .inLoop lp8, .inBlock 0, .code (tl8 9)]) cs) w := by
 intro m
 induction m with
 | zero =>
   intro i T w hi hF hs t6 t12 t58 t59
   obtain rfl : i = n := by omega
   exact hgo T w hF hs t6 t12 t58 t59
 | succ m ih =>
   intro i T w hi hF hs t6 t12 t58 t59
   exact Lone.on (n := 160) (oc3 hF st hO (by omega) hn hs t6 t12 t58 t59 fun T' w' hF' hs' t6' t12' t58' t59' _ => ih (i + 1) T' w' (by omega) hF' hs' t6' t12' t58' t59')
end
theorem lawOnce {w : World} {b0 b1 : Int} (h0 : 0 ≤ b0 ∧ b0 < 256) (h1 : 0 ≤ b1 ∧ b1 < 256) :
   Lone Try.prog w.heap.size (LawEnd 8 77 4 w) none0 (G ((base 8).at ⟨#[.int .u8 b0, .int .u8 b1, undef, undef, undef, undef, undef, undef, undef, undef, undef, undef, undef, undef, undef, undef, undef, undef, undef, undef, undef, undef, undef, undef, undef, undef, undef, undef, undef, undef, undef, undef, undef, undef, undef, undef, undef, undef, undef, undef, undef, undef, undef, undef, undef, undef, undef, undef, undef, undef, undef, undef, undef, undef, undef, undef, undef, undef, undef, undef, undef, undef, undef, undef, undef, undef, undef, undef, undef, undef, undef, undef, undef, undef, undef, undef, undef], []⟩ [.code body8]) []) w := by
 have h66 := s66_none w
 obtain ⟨n, rfl⟩ : ∃ n : Nat, b0 = n := ⟨b0.toNat, by omega⟩
 obtain ⟨k, hk⟩ : ∃ k : Nat, b1.tmod 16 = (k : Int) := ⟨(b1.tmod 16).toNat, by have := Int.tmod_nonneg 16 h1.1; omega⟩
 have hk16 : k < 16 := by have := Int.tmod_lt_of_pos b1 (show (0 : Int) < 16 by omega); omega
 have hn : n < 256 := by omega
 have hF0 : Fresh w.heap.size w (fun b _ => none0 b) [] w := ⟨Out.refl (Nat.le_refl _), by simp, fun i o h => by simp at h⟩
 refine Lone.on (n := 90) (oc0 (n0 := w.heap.size) (fun b h => h.elim) hn hk16 hk hF0 fun T w2 hF hs t2 t5 t6 t7 t8 t9 _ => ?_)
 refine (once_map h66 rfl hn hk16 hF).bind fun S g w3 _ h => ?_
 obtain ⟨K3, mm, fo, co, hmm, hO, rfl⟩ := h
 clear hF
 have st : Steady (fun w' => Keep none0 w S w' ∧ OnF S w.heap.size n mm fo w') := fun _ d h => ⟨h.1.at d, OnF.steady _ d h.2⟩
 refine Lone.on (n := 60) (oc1 (k := k) (F0 := fun w' => Keep none0 w S w' ∧ OnF S w.heap.size n mm fo w') ⟨K3, hO⟩ st hs t2 t5 t6 t7 t8 t9 fun T w4 hF hs t2 t5 t6 t7 t8 t9 t12 t13 _ => ?_)
 refine Lone.on (n := 300) (oc7 (k := k) hF st (fun _ h => h.2) hn hk16 hmm hs t2 t5 t6 t7 t8 t9 t12 t13 fun T w5 hF hs t6 t12 t56 => ?_)
 refine oc2 (F0 := fun w' => Keep none0 w S w' ∧ OnF S w.heap.size n mm fo w') hF st hs t6 t12 t56 fun T w6 hF hs t6 t12 t58 t59 _ => ?_
 refine once_loop st (fun _ h => h.2) hn (fun T w7 hF hs t6 t12 t58 t59 => ?_) n 0 T w6 (Nat.zero_add n) hF hs t6 t12 t58 t59
 refine Lone.on (n := 60) (oc4 (F0 := fun w' => Keep none0 w S w') hF.1 Keep.steady hs t6 t12 t58 t59 (decide_eq_false (by omega)) fun T w8 hF hs _ => ?_)
 refine (awake_call hF.s66).next hF.out.size fun S9 g9 w9 h9 => ?_
 obtain ⟨k9, rfl⟩ := h9
 exact Lone.goes (n := 60) (oc5 (F0 := Keep none0 w S9) (hF.trans k9) Keep.steady hs fun T kk w10 hF hs t4 => ⟨hF, T, kk, hs, t4, rfl⟩)
end Go.Proofs.Ytblpmdolclalnaa
namespace Go.Proofs.Ytblpmdolclalnaa
open Go.ChangeShapes Go.WideShapes Go.ChangeAt Go.RowKit Go.Conc
section
variable {H : Type} {enc : TypeId × Value → H} {P : Program}
theorem trodAll_below (hl : laidOutB P = true) {W W' : World} (hb : Below W.heap.size W W') : ∀ {ts : List TypeId} {vs : List Value} {ds : List (DataW H)} {ps : List MemPlace}, (∀ t ∈ ts, P.readableRec t = true ∧ t < P.types.size) →
   DataW.TrodAll enc P W 0 (fun _ => true) true ts vs ds ps → (∀ x ∈ ps, x.block < W.heap.size) → DataW.TrodAll enc P W' 0 (fun b => decide (b < W.heap.size)) true ts vs ds ps
 | [], vs, ds, ps, _, h, _ => by
   obtain ⟨rfl, rfl, rfl⟩ := trodAll_nil h
   exact trodAll_mk0
 | t :: ts, vs, ds, ps, ht, h, hlt => by
   obtain ⟨v0, vs0, d0, ds0, p0, q0, rfl, rfl, rfl, h0, r0⟩ := trodAll_cons h
   exact trodAll_cons_mk (Below.trod hl (ht t (by simp)).1 (ht t (by simp)).2 h0 hb (fun x hx => hlt x (by simp [hx])))
     (trodAll_below hl hb (fun t' h' => ht t' (by simp [h'])) r0 (fun x hx => hlt x (by simp [hx])))
theorem post_keep {f : Func} {s : ChangeSpec} {apart fresh handsOn : Bool} {W W' : World} {args : Array Value} {v : Value} {ds gs : List (DataW H)} {before : List MemPlace}
   (hW : DataW.Whole enc P f.params.toList s.vars apart W args.toList ds gs before) (hv0 : s.vars = [])
   (hres : ∀ (b : Nat) (sp : Nat → Bool) (hd : Bool), DataW.TrodAll enc P W' b sp hd f.resultTypes.toList (v.resultList f.resultTypes.size) (s.fn H (ds ++ gs)).results [])
   (hsame : (s.fn H (ds ++ gs)).args = ds) (hnov : (s.fn H (ds ++ gs)).vars = [])
   (hl : laidOutB P = true) (ht : ∀ t ∈ f.params.toList, P.readableRec t = true ∧ t < P.types.size) (hb : Below W.heap.size W W') :
   s.post enc P f apart fresh handsOn false W args v W' := by
 have hlt : ∀ p ∈ before, p.block < W.heap.size := fun p hp => hW.lt p hp
 have hW2 := hW
 obtain ⟨p, q, hA, hV, rfl, _, _⟩ := hW2
 rw [hv0] at hV
 obtain ⟨rfl, rfl⟩ := trodVars_none hV
 have hargs : DataW.TrodAll enc P W' 0 (fun b => decide (b < W.heap.size)) true f.params.toList args.toList (s.fn H (ds ++ [])).args p := by
   rw [hsame]
   exact trodAll_below hl hb ht hA (fun x hx => hlt x (by simp [hx]))
 refine ⟨ds, [], p ++ [], [], p, [], hW, hres _ _ _, hargs, ?_, World.keptBut_mono (fun x hx => ⟨hx, ?_⟩) (hb.frame (· ∈ p ++ [])), fun h => by cases h⟩
 · rw [hv0, hnov]; rfl
 · exact .inr (by simpa using hx)
end
theorem Try.own : ownKnob Try.prog.godebug = none := by kernel_rfl
theorem Try.laidOut : laidOutB Try.prog = true := by kernel_rfl
theorem PostL.below {w w' : World} {v : Value} (h : PostL w v w') : v = .bool true ∧ Below w.heap.size w w' := ⟨h.1, h.2.1, h.2.2.1, h.2.2.2.1, h.2.2.2.2.1, h.2.2.2.2.2⟩
theorem u8_range {x : Int} (h : (Lit.int .u8 x).wf = true) : 0 ≤ x ∧ x < 256 := by
 have h2 : IntKind.u8.min ≤ x ∧ x ≤ IntKind.u8.max := by simpa [Lit.wf] using h
 have e1 : IntKind.u8.min = 0 := by decide
 have e2 : IntKind.u8.max = 255 := by decide
 omega
end Go.Proofs.Ytblpmdolclalnaa
