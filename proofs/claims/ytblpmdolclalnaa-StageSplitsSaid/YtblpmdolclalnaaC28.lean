/- Goroutine 0 alone: the pieces of the walk of the law StageSplits, from call to call; the loop that makes its functions. Made by gen_lan.py. -/
import Derived.Test.YtblpmdolclalnaaC11
import Derived.Test.YtblpmdolclalnaaC26
import Derived.Test.YtblpmdolclalnaaC27
namespace Go.Proofs.Ytblpmdolclalnaa
open Go.Conc Go.RowKit Go.Conc.Lib Go.ConcR.Gen Go.ConcN.Gen
noncomputable def lp6 : Code := cI (cI (cS (cF (tl6 4))))
noncomputable def bd6 : Code := cI (cF (cS (cS lp6)))
section
variable {Shun S : Nat → Prop} {w w₁ : World} {cs : List Frame} {kb kl i cut : Nat} {v1 v2 vf : Value} {fa fb fc ff : Option Addr} {ca cb cc na nb nc cf nf : Nat} {c : Int} {codes : List Int} {kbs : List Nat}
set_option maxRecDepth 100000 in
set_option maxHeartbeats 8000000 in
theorem sp0 {Stop : Goroutine → World → Prop}  {F0 : World → Prop} (hF : F0 w) (s0 : Steady F0)
    (hgo : ∀ T w, F0 w → T.size = 127 → T[0]? = some (.slice fa na ca) → T[1]? = some (.slice fc nc cc) → T[2]? = some (.int .u8 c) → Stop (G ((base 9).at ⟨#[.slice fa na ca, undef, undef, undef, undef, undef, undef, undef, undef, undef, undef, undef, undef, undef, undef, undef, undef, undef, undef, undef, undef, undef, undef, undef, undef], []⟩ [.code body9]) ((base 6).at ⟨T, []⟩ (.inRegion (cO (cF (cF (tl6 1)))) [1, 2, 3, 4, 5, 6, 7] :: [.code (cS (cF (tl6 1))), .code (tl6 2)]) :: cs)) w) :
    Goes Try.prog true AtRel (SD Shun) Stop 60 (G ((base 6).at ⟨#[.slice fa na ca, .slice fc nc cc, .int .u8 c, undef, undef, undef, undef, undef, undef, undef, undef, undef, undef, undef, undef, undef, undef, undef, undef, undef, undef, undef, undef, undef, undef, undef, undef, undef, undef, undef, undef, undef, undef, undef, undef, undef, undef, undef, undef, undef, undef, undef, undef, undef, undef, undef, undef, undef, undef, undef, undef, undef, undef, undef, undef, undef, undef, undef, undef, undef, undef, undef, undef, undef, undef, undef, undef, undef, undef, undef, undef, undef, undef, undef, undef, undef, undef, undef, undef, undef, undef, undef, undef, undef, undef, undef, undef, undef, undef, undef, undef, undef, undef, undef, undef, undef, undef, undef, undef, undef, undef, undef, undef, undef, undef, undef, undef, undef, undef, undef, undef, undef, undef, undef, undef, undef, undef, undef, undef, undef, undef, undef, undef, undef, undef, undef, undef], []⟩ [.code body6]) cs) w := by
  have hD : ∀ w, SD Shun w w #[] := sd_idle
  have rl : ∀ {w w₁ : World}, F0 w → AtRel w w₁ → F0 w₁ := fun h r => s0.rel h r
  replace hgo := Hd.mk hgo
  simp only [tl6, body6, cO, cS, cF, Try.f6, Option.getD_some, body9, Try.f9] at hgo ⊢
  try walk_nrm
  repeat ((first | ((with_reducible refine g_opG ?_); (first | (refine g_unw hD rfl rfl (fun _ h₁ => ?_); replace hF := rl hF h₁; clear h₁; walk_nrm) | (refine Goes.step rfl (fun _ h₁ => ?_); replace hF := rl hF h₁; clear h₁; refine goes_oper_k rfl rfl (by k_ne) (fun K hK => ?_); go_simp; refine hK _ _ ⟨?_, ?_⟩; (focus (refine g_idle hD ?_; intro e he; have hm := mem_listed he; simp [go_sem, *] at hm; done)); clear hK K; try w_num))) | ((first | (with_reducible first | refine g_k true true hD rfl ?_ | refine g_ret hD ?_ | refine g_end hD ?_) | ((with_reducible refine g_ct hD ?_ ?_); (focus exact rfl)) | ((with_reducible refine g_cf hD ?_ ?_); (focus exact rfl))); intro _ h₁; replace hF := rl hF h₁; clear h₁) | ((with_reducible refine g_reg hD (fun _ h₁ => ?_)); replace hF := rl hF h₁; clear h₁; simp only [regN]) | ((with_reducible refine g_exit hD (k' := ?_) ?_ (fun _ h₁ => ?_)); rotate_left; (focus exact rfl); replace hF := rl hF h₁; clear h₁)))
  ((with_reducible refine g_opG ?_); refine Goes.step rfl (fun _ h₁ => ?_); replace hF := rl hF h₁; clear h₁; refine goes_call rfl rfl (by k_ne) rfl Try.func9 rfl rfl ⟨by exact (g_idle hD (fun e he => by simp at he)), ?_⟩; walk_nrmf Try.f9)
  exact Goes.stop fun w₃ h₃ => hgo.out _ _ (rl hF h₃) rfl rfl rfl rfl

set_option maxRecDepth 100000 in
set_option maxHeartbeats 8000000 in
theorem sp1 {Stop : Goroutine → World → Prop}  {F0 : World → Prop} (hF : F0 w) (s0 : Steady F0) {T : Array Value} (hs : T.size = 127)
    (hgo : ∀ T w, F0 w → T.size = 127 → Stop (G ((base 10).at ⟨#[undef, undef, undef, undef, undef, undef, undef, undef, undef, undef, undef, undef, undef, undef, undef, undef, undef, undef, undef, undef, undef, undef, undef, undef, undef, undef, undef, undef, undef, undef, undef, undef, undef, undef, undef, undef, undef, undef, undef, undef, undef, undef, undef, undef, undef, undef, undef, undef, undef], []⟩ [.code body10]) ((base 6).at ⟨T, []⟩ (.inRegion (cO (cF (cT (cS (cF (tl6 1)))))) [0, 1] :: [.code (cS (cT (cS (cF (tl6 1))))), .code (tl6 2)]) :: cs)) w) :
    Goes Try.prog true AtRel (SD Shun) Stop 60 (G ((base 6).at ⟨T.setIfInBounds 21 (.bool false), []⟩ (.inRegion (cO (cF (cF (tl6 1)))) [2, 3, 4, 5, 6, 7] :: [.code (cS (cF (tl6 1))), .code (tl6 2)])) cs) w := by
  have hD : ∀ w, SD Shun w w #[] := sd_idle
  have rl : ∀ {w w₁ : World}, F0 w → AtRel w w₁ → F0 w₁ := fun h r => s0.rel h r
  replace hgo := Hd.mk hgo
  obtain ⟨v, rfl⟩ := array127 T hs
  clear hs
  simp only [tl6, body6, cT, cO, cS, cF, Try.f6, Option.getD_some, body10, Try.f10] at hgo ⊢
  try walk_nrm
  repeat ((first | ((with_reducible refine g_opG ?_); (first | (refine g_unw hD rfl rfl (fun _ h₁ => ?_); replace hF := rl hF h₁; clear h₁; walk_nrm) | (refine Goes.step rfl (fun _ h₁ => ?_); replace hF := rl hF h₁; clear h₁; refine goes_oper_k rfl rfl (by k_ne) (fun K hK => ?_); go_simp; refine hK _ _ ⟨?_, ?_⟩; (focus (refine g_idle hD ?_; intro e he; have hm := mem_listed he; simp [go_sem, *] at hm; done)); clear hK K; try w_num))) | ((first | (with_reducible first | refine g_k true true hD rfl ?_ | refine g_ret hD ?_ | refine g_end hD ?_) | ((with_reducible refine g_ct hD ?_ ?_); (focus exact rfl)) | ((with_reducible refine g_cf hD ?_ ?_); (focus exact rfl))); intro _ h₁; replace hF := rl hF h₁; clear h₁) | ((with_reducible refine g_reg hD (fun _ h₁ => ?_)); replace hF := rl hF h₁; clear h₁; simp only [regN]) | ((with_reducible refine g_exit hD (k' := ?_) ?_ (fun _ h₁ => ?_)); rotate_left; (focus exact rfl); replace hF := rl hF h₁; clear h₁)))
  ((with_reducible refine g_opG ?_); refine Goes.step rfl (fun _ h₁ => ?_); replace hF := rl hF h₁; clear h₁; refine goes_call rfl rfl (by k_ne) rfl Try.func10 rfl rfl ⟨by exact (g_idle hD (fun e he => by simp at he)), ?_⟩; walk_nrmf Try.f10)
  exact Goes.stop fun w₃ h₃ => hgo.out _ _ (rl hF h₃) rfl

set_option maxRecDepth 100000 in
set_option maxHeartbeats 8000000 in
theorem sp1c {Stop : Goroutine → World → Prop}  {F0 : World → Prop} (hF : F0 w) (s0 : Steady F0) {T : Array Value} (hs : T.size = 127) (t1 : T[1]? = some (.slice fc nc cc)) (hgt : decide (16 < (nc : Int)) = true)
    (hgo : ∀ T w, F0 w → T.size = 127 → Stop (G ((base 10).at ⟨#[undef, undef, undef, undef, undef, undef, undef, undef, undef, undef, undef, undef, undef, undef, undef, undef, undef, undef, undef, undef, undef, undef, undef, undef, undef, undef, undef, undef, undef, undef, undef, undef, undef, undef, undef, undef, undef, undef, undef, undef, undef, undef, undef, undef, undef, undef, undef, undef, undef], []⟩ [.code body10]) ((base 6).at ⟨T, []⟩ (.inRegion (cO (cF (cT (cS (cF (tl6 1)))))) [0, 1] :: [.code (cS (cT (cS (cF (tl6 1))))), .code (tl6 2)]) :: cs)) w) :
    Goes Try.prog true AtRel (SD Shun) Stop 60 (G ((base 6).at ⟨T.setIfInBounds 21 (.bool true), []⟩ (.inRegion (cO (cF (cF (tl6 1)))) [2, 3, 4, 5, 6, 7] :: [.code (cS (cF (tl6 1))), .code (tl6 2)])) cs) w := by
  have hD : ∀ w, SD Shun w w #[] := sd_idle
  have rl : ∀ {w w₁ : World}, F0 w → AtRel w w₁ → F0 w₁ := fun h r => s0.rel h r
  replace hgo := Hd.mk hgo
  obtain ⟨v, rfl⟩ := array127 T hs
  simp only [List.getElem?_toArray, List.getElem?_cons_zero, List.getElem?_cons_succ, Option.some.injEq] at t1
  rw [t1]
  clear hs
  simp only [tl6, body6, cT, cO, cS, cF, Try.f6, Option.getD_some, body10, Try.f10] at hgo ⊢
  try walk_nrm
  repeat ((first | ((with_reducible refine g_opG ?_); (first | (refine g_unw hD rfl rfl (fun _ h₁ => ?_); replace hF := rl hF h₁; clear h₁; walk_nrm) | (refine Goes.step rfl (fun _ h₁ => ?_); replace hF := rl hF h₁; clear h₁; refine goes_oper_k rfl rfl (by k_ne) (fun K hK => ?_); go_simp; refine hK _ _ ⟨?_, ?_⟩; (focus (refine g_idle hD ?_; intro e he; have hm := mem_listed he; simp [go_sem, *] at hm; done)); clear hK K; try w_num))) | ((first | (with_reducible first | refine g_k true true hD rfl ?_ | refine g_ret hD ?_ | refine g_end hD ?_) | ((with_reducible refine g_ct hD ?_ ?_); (focus exact rfl)) | ((with_reducible refine g_cf hD ?_ ?_); (focus exact rfl))); intro _ h₁; replace hF := rl hF h₁; clear h₁) | ((with_reducible refine g_reg hD (fun _ h₁ => ?_)); replace hF := rl hF h₁; clear h₁; simp only [regN]) | ((with_reducible refine g_exit hD (k' := ?_) ?_ (fun _ h₁ => ?_)); rotate_left; (focus exact rfl); replace hF := rl hF h₁; clear h₁)))
  ((with_reducible refine g_opG ?_); refine Goes.step rfl (fun _ h₁ => ?_); replace hF := rl hF h₁; clear h₁; refine goes_call rfl rfl (by k_ne) rfl Try.func10 rfl rfl ⟨by exact (g_idle hD (fun e he => by simp at he)), ?_⟩; walk_nrmf Try.f10)
  exact Goes.stop fun w₃ h₃ => hgo.out _ _ (rl hF h₃) rfl

set_option maxRecDepth 100000 in
set_option maxHeartbeats 8000000 in
theorem sp1b {Stop : Goroutine → World → Prop}  {F0 : World → Prop} (hF : F0 w) (s0 : Steady F0) {T : Array Value} (hs : T.size = 127)
    (hgo : ∀ T k w, F0 w → T.size = 127 → T[6]? = some (.bool true) → Stop (G { (base 6).at ⟨T, []⟩ k with mode := .returning } []) w) :
    Goes Try.prog true AtRel (SD Shun) Stop 60 (G ((base 6).at ⟨T.setIfInBounds 28 (.bool true), []⟩ (.inRegion (cO (cF (cT (cS (cF (tl6 1)))))) [1] :: [.code (cS (cT (cS (cF (tl6 1))))), .code (tl6 2)])) []) w := by
  have hD : ∀ w, SD Shun w w #[] := sd_idle
  have rl : ∀ {w w₁ : World}, F0 w → AtRel w w₁ → F0 w₁ := fun h r => s0.rel h r
  replace hgo := Hd.mk hgo
  obtain ⟨v, rfl⟩ := array127 T hs
  clear hs
  simp only [tl6, body6, cT, cO, cS, cF, Try.f6, Option.getD_some] at hgo ⊢
  try walk_nrm
  repeat ((first | ((with_reducible refine g_opG ?_); (first | (refine g_unw hD rfl rfl (fun _ h₁ => ?_); replace hF := rl hF h₁; clear h₁; walk_nrm) | (refine Goes.step rfl (fun _ h₁ => ?_); replace hF := rl hF h₁; clear h₁; refine goes_oper_k rfl rfl (by k_ne) (fun K hK => ?_); go_simp; refine hK _ _ ⟨?_, ?_⟩; (focus (refine g_idle hD ?_; intro e he; have hm := mem_listed he; simp [go_sem, *] at hm; done)); clear hK K; try w_num))) | ((first | (with_reducible first | refine g_k true true hD rfl ?_ | refine g_ret hD ?_ | refine g_end hD ?_) | ((with_reducible refine g_ct hD ?_ ?_); (focus exact rfl)) | ((with_reducible refine g_cf hD ?_ ?_); (focus exact rfl))); intro _ h₁; replace hF := rl hF h₁; clear h₁) | ((with_reducible refine g_reg hD (fun _ h₁ => ?_)); replace hF := rl hF h₁; clear h₁; simp only [regN]) | ((with_reducible refine g_exit hD (k' := ?_) ?_ (fun _ h₁ => ?_)); rotate_left; (focus exact rfl); replace hF := rl hF h₁; clear h₁)))
  exact Goes.stop fun w₃ h₃ => hgo.out _ _ _ (rl hF h₃) rfl rfl

set_option maxRecDepth 100000 in
set_option maxHeartbeats 8000000 in
theorem sp2 {Stop : Goroutine → World → Prop}  {F0 : World → Prop} (hF : F0 w) (s0 : Steady F0) {T : Array Value} (hs : T.size = 127) (t0 : T[0]? = some (.slice fa na ca)) (t1 : T[1]? = some (.slice fc nc cc)) (t2 : T[2]? = some (.int .u8 c)) (hgt : decide (16 < (nc : Int)) = false) (hw : IntKind.i64.wrap c = c) (hadd : IntKind.i64.wrap ((nc : Int) + 1) = ((nc + 1 : Nat) : Int)) (_hne : ((nc + 1 : Nat) : Int) ≠ 0)
    (hgo : ∀ T w, F0 w → T.size = 127 → T[0]? = some (.slice fa na ca) → T[1]? = some (.slice fc nc cc) → T[7]? = some (.int .i64 (c.tmod ((nc : Int) + 1))) → T[8]? = some (.slice none 0 0) → T[36]? = some (.int .i64 nc) → T[37]? = some (.int .i64 0) → Stop (G ((base 6).at ⟨T, []⟩ [.code lp6, .inLoop lp6, .inBlock 0, .code (tl6 5)]) cs) w) :
    Goes Try.prog true AtRel (SD Shun) Stop 60 (G ((base 6).at ⟨T.setIfInBounds 21 (.bool true), []⟩ (.inRegion (cO (cF (cF (tl6 1)))) [2, 3, 4, 5, 6, 7] :: [.code (cS (cF (tl6 1))), .code (tl6 2)])) cs) w := by
  have hD : ∀ w, SD Shun w w #[] := sd_idle
  have rl : ∀ {w w₁ : World}, F0 w → AtRel w w₁ → F0 w₁ := fun h r => s0.rel h r
  replace hgo := Hd.mk hgo
  obtain ⟨v, rfl⟩ := array127 T hs
  simp only [List.getElem?_toArray, List.getElem?_cons_zero, List.getElem?_cons_succ, Option.some.injEq] at t0 t1 t2
  rw [t0, t1, t2]
  clear hs
  simp only [tl6, body6, lp6, cO, cS, cF, cI, Try.f6, Option.getD_some] at hgo ⊢
  try walk_nrm
  repeat ((first | ((with_reducible refine g_opG ?_); (first | (refine g_unw hD rfl rfl (fun _ h₁ => ?_); replace hF := rl hF h₁; clear h₁; walk_nrm) | (refine Goes.step rfl (fun _ h₁ => ?_); replace hF := rl hF h₁; clear h₁; refine goes_oper_k rfl rfl (by k_ne) (fun K hK => ?_); go_simp; refine hK _ _ ⟨?_, ?_⟩; (focus (refine g_idle hD ?_; intro e he; have hm := mem_listed he; simp [go_sem, *] at hm; done)); clear hK K; try w_num))) | ((first | (with_reducible first | refine g_k true false hD rfl ?_ | refine g_ret hD ?_ | refine g_end hD ?_) | ((with_reducible refine g_ct hD ?_ ?_); (focus exact rfl)) | ((with_reducible refine g_cf hD ?_ ?_); (focus exact rfl))); intro _ h₁; replace hF := rl hF h₁; clear h₁) | ((with_reducible refine g_reg hD (fun _ h₁ => ?_)); replace hF := rl hF h₁; clear h₁; simp only [regN]) | ((with_reducible refine g_exit hD (k' := ?_) ?_ (fun _ h₁ => ?_)); rotate_left; (focus exact rfl); replace hF := rl hF h₁; clear h₁)))
  (first | ((with_reducible refine g_opG ?_); (first | (refine g_unw hD rfl rfl (fun _ h₁ => ?_); replace hF := rl hF h₁; clear h₁; walk_nrm) | (refine Goes.step rfl (fun _ h₁ => ?_); replace hF := rl hF h₁; clear h₁; refine goes_oper_k rfl rfl (by k_ne) (fun K hK => ?_); go_simp; refine hK _ _ ⟨?_, ?_⟩; (focus (refine g_idle hD ?_; intro e he; have hm := mem_listed he; simp [go_sem, *] at hm; done)); clear hK K; try w_num))) | ((first | (with_reducible first | refine g_k true true hD rfl ?_ | refine g_ret hD ?_ | refine g_end hD ?_) | ((with_reducible refine g_ct hD ?_ ?_); (focus exact rfl)) | ((with_reducible refine g_cf hD ?_ ?_); (focus exact rfl))); intro _ h₁; replace hF := rl hF h₁; clear h₁) | ((with_reducible refine g_reg hD (fun _ h₁ => ?_)); replace hF := rl hF h₁; clear h₁; simp only [regN]) | ((with_reducible refine g_exit hD (k' := ?_) ?_ (fun _ h₁ => ?_)); rotate_left; (focus exact rfl); replace hF := rl hF h₁; clear h₁))
  exact Goes.stop fun w₃ h₃ => hgo.out _ _ (rl hF h₃) rfl rfl rfl rfl rfl rfl rfl


set_option maxRecDepth 100000 in
set_option maxHeartbeats 8000000 in
/-- From the loop's head to the call of function. -/
theorem sp_to {Stop : Goroutine → World → Prop} (hL : Ls Shun fc (codesV codes) w) (hlen : codes.length < 900000) (hx : codes[i]? = some c) {T : Array Value} (hs : T.size = 127) (t0 : T[0]? = some (.slice fa na ca)) (t7 : T[7]? = some (.int .i64 cut)) (t1 : T[1]? = some (.slice fc codes.length cc)) (t8 : T[8]? = some (vf)) (t36 : T[36]? = some (.int .i64 codes.length)) (t37 : T[37]? = some (.int .i64 i)) (hF : FL Shun w S codes kbs vf w₁)
    (hgo : ∀ T w₁, FL Shun w S codes kbs vf w₁ → T.size = 127 → T[0]? = some (.slice fa na ca) → T[7]? = some (.int .i64 cut) → T[1]? = some (.slice fc codes.length cc) → T[8]? = some (vf) → T[36]? = some (.int .i64 codes.length) → T[37]? = some (.int .i64 i) → T[40]? = some vf → Stop (G ((base 12).at ⟨#[.int .u8 c, undef, undef, undef], []⟩ [.code body12]) ((base 6).at ⟨T, []⟩ (.inRegion (cO (cS bd6)) [5, 6, 7, 8] :: [.inBlock 1, .code (cS (cS (cS lp6))), .inLoop lp6, .inBlock 0, .code (tl6 5)]) :: cs)) w₁) :
    Goes Try.prog true AtRel (SD S) Stop 60 (G ((base 6).at ⟨T, []⟩ [.code lp6, .inLoop lp6, .inBlock 0, .code (tl6 5)]) cs) w₁ := by
  have hD : ∀ w, SD S w w #[] := sd_idle
  have rl : ∀ {w₁ w₂ : World}, FL Shun w S codes kbs vf w₁ → AtRel w₁ w₂ → FL Shun w S codes kbs vf w₂ := fun h r => FL.steady.rel h r
  obtain ⟨v, rfl⟩ := array127 T hs
  simp only [List.getElem?_toArray, List.getElem?_cons_zero, List.getElem?_cons_succ, Option.some.injEq] at t0 t7 t1 t8 t36 t37
  rw [t0, t7, t1, t8, t36, t37]
  clear hs
  have hi : i < codes.length := (List.getElem?_eq_some_iff.1 hx).1
  have hlt : decide ((i : Int) < (codes.length : Int)) = true := decide_eq_true (by omega)
  obtain ⟨bl, o, rfl, hsb, hcl⟩ := hL i (.int .u8 c) (by rw [List.getElem?_map, hx]; rfl)
  have hcell : ∀ w₁, Keep Shun w S w₁ → w₁.cell? ⟨bl, o + i, none⟩ = some (.int .u8 c) := fun w₁ h => (h.out.cell bl _ (cell_lt hcl) hsb).trans hcl
  have hsS : ¬ S bl := hF.keep.old (cell_lt hcl) hsb
  replace hlen := Hd.mk hlen
  replace hgo := Hd.mk hgo
  clear hL hcl hx
  simp only [body12, Try.f12, tl6, body6, lp6, bd6, cO, cS, cF, cI, Try.f6, Option.getD_some] at hgo ⊢
  repeat ((first | ((with_reducible refine g_opG ?_); (first | (refine g_unw hD rfl rfl (fun _ h₁ => ?_); replace hF := rl hF h₁; clear h₁; walk_nrm) | (refine Goes.step rfl (fun _ h₁ => ?_); replace hF := rl hF h₁; clear h₁; refine goes_oper_k rfl rfl (by k_ne) (fun K hK => ?_); go_simp; refine hK _ _ ⟨?_, ?_⟩; (focus (refine g_idle hD ?_; intro e he; have hm := mem_listed he; simp [go_sem, *] at hm; done)); clear hK K; try w_num))) | ((first | (with_reducible first | refine g_k true true hD rfl ?_ | refine g_ret hD ?_ | refine g_end hD ?_) | ((with_reducible refine g_ct hD ?_ ?_); (focus exact rfl)) | ((with_reducible refine g_cf hD ?_ ?_); (focus exact rfl))); intro _ h₁; replace hF := rl hF h₁; clear h₁) | ((with_reducible refine g_reg hD (fun _ h₁ => ?_)); replace hF := rl hF h₁; clear h₁; simp only [regN]) | ((with_reducible refine g_exit hD (k' := ?_) ?_ (fun _ h₁ => ?_)); rotate_left; (focus exact rfl); replace hF := rl hF h₁; clear h₁)))
  refine Goes.step rfl fun w₂ h₂ => ?_
  replace hF := rl hF h₂
  clear h₂
  refine goes_oper_k rfl rfl (by decide) (fun K hK => ?_)
  have h1 := hcell _ hF.keep
  go_simp
  refine hK _ _ ⟨sd_read fun e he => ?_, ?_⟩
  · have hm := mem_listed he
    simp [go_sem, h1] at hm
    exact ⟨_, _, _, hm, hsS, cell_lt h1⟩
  clear hK K h1
  try walk_nrm
  ((with_reducible refine g_opG ?_); refine Goes.step rfl (fun _ h₁ => ?_); replace hF := rl hF h₁; clear h₁; refine goes_call rfl rfl (by k_ne) rfl Try.func12 rfl rfl ⟨by exact (g_idle hD (fun e he => by simp at he)), ?_⟩; walk_nrmf Try.f12)
  exact Goes.stop fun w₃ h₃ => hgo.out _ _ (rl hF h₃) rfl rfl rfl rfl rfl rfl rfl rfl

set_option maxRecDepth 100000 in
set_option maxHeartbeats 8000000 in
/-- From the return of function to the loop's head. -/
theorem sp_back {Stop : Goroutine → World → Prop} (hlen : codes.length < 900000) (hx : codes[i]? = some c) (hkb : kbs.length = i) {T : Array Value} (hs : T.size = 127) (t0 : T[0]? = some (.slice fa na ca)) (t7 : T[7]? = some (.int .i64 cut)) (t1 : T[1]? = some (.slice fc codes.length cc)) (t8 : T[8]? = some (vf)) (t36 : T[36]? = some (.int .i64 codes.length)) (t37 : T[37]? = some (.int .i64 i)) (u0 : T[40]? = some vf) (hF : FL Shun w S codes kbs vf w₁) (hc : Cel S kb (.int .u8 c) w₁)
    (hgo : ∀ T vf' w₁, FL Shun w S codes (kbs ++ [kb]) vf' w₁ → T.size = 127 → T[0]? = some (.slice fa na ca) → T[7]? = some (.int .i64 cut) → T[1]? = some (.slice fc codes.length cc) → T[8]? = some (vf') → T[36]? = some (.int .i64 codes.length) → T[37]? = some (.int .i64 (i + 1 : Nat)) → Stop (G ((base 6).at ⟨T, []⟩ [.code lp6, .inLoop lp6, .inBlock 0, .code (tl6 5)]) cs) w₁) :
    Goes Try.prog true AtRel (SD S) Stop 60 (G ((base 6).at ⟨T.setIfInBounds 45 (fnV kb), []⟩ (.inRegion (cO (cS bd6)) [6, 7, 8] :: [.inBlock 1, .code (cS (cS (cS lp6))), .inLoop lp6, .inBlock 0, .code (tl6 5)])) cs) w₁ := by
  have hD : ∀ w, SD S w w #[] := sd_idle
  obtain ⟨v, rfl⟩ := array127 T hs
  simp only [List.getElem?_toArray, List.getElem?_cons_zero, List.getElem?_cons_succ, Option.some.injEq] at t0 t7 t1 t8 t36 t37 u0
  rw [t0, t7, t1, t8, t36, t37]
  rw [u0]
  clear hs
  have hadd : IntKind.i64.wrap ((i : Int) + 1) = ((i + 1 : Nat) : Int) := by have := (List.getElem?_eq_some_iff.1 hx).1; rw [IntKind.wrap_i64]; omega
  replace hgo := Hd.mk hgo
  replace hlen := Hd.mk hlen
  replace hkb := Hd.mk hkb
  simp only [tl6, body6, lp6, bd6, cO, cS, cF, cI, Try.f6, Option.getD_some] at hgo ⊢
  try simp only [fnV]
  try walk_nrm
  refine Goes.step rfl fun w₂ h₂ => ?_
  replace hF := FL.steady.rel hF h₂
  replace hc : Cel S kb (.int .u8 c) w₂ := by obtain ⟨d, rfl⟩ := h₂; exact hc
  clear h₂
  refine goes_oper_k rfl rfl (by decide) (fun K hK => ?_)
  go_simp
  refine hK _ _ ⟨sd_new (by simp) (fun e he => ?_), ?_⟩
  · have hm := mem_listed he
    simp [go_sem] at hm
  clear hK K
  replace hF : FX Shun w S codes kbs _ w₂.heap.size kb c (w₂.alloc (.cells #[.func (.func 30) #[] #[ptr kb]] 28)) := FX.make hF hc
  clear hc
  generalize w₂.alloc (.cells #[.func (.func 30) #[] #[ptr kb]] 28) = w₃ at hF ⊢
  generalize w₂.heap.size = bx at hF ⊢
  clear w₂
  try walk_nrm
  refine Goes.step rfl fun w₄ h₄ => ?_
  replace hF := FX.steady.rel hF h₄
  clear h₄
  obtain ⟨v', w', hr, hrow', hgr, hb', hsd⟩ := sd_append (P := Try.prog) (ty := 37) (cx := 1) oneT37 hF.j.row hF.cell rfl (by have := hkb.out; have := (List.getElem?_eq_some_iff.1 hx).1; have := hlen.out; omega) hF.j.rowS hF.low (fun b hb => hF.j.keep.s66.lt hb)
  rw [stepG_value rfl rfl (by decide) (run_append_op _ _ 37 rfl rfl rfl hr)]
  simp only [goes_go]
  refine ⟨?_, ?_⟩
  · unfold listed
    rw [events_append_op _ _ 37 rfl rfl rfl]
    exact hsd _
  replace hF := hF.appended (by rw [hkb.out]; exact hx) hgr hrow' hb'
  clear hsd hr hgr hb' hrow' w₄
  have rl : ∀ {w₁ w₂ : World}, FL Shun w S codes (kbs ++ [kb]) v' w₁ → AtRel w₁ w₂ → FL Shun w S codes (kbs ++ [kb]) v' w₂ := fun h r => FL.steady.rel h r
  walk_nrm
  repeat ((first | ((with_reducible refine g_opG ?_); (first | (refine g_unw hD rfl rfl (fun _ h₁ => ?_); replace hF := rl hF h₁; clear h₁; walk_nrm) | (refine Goes.step rfl (fun _ h₁ => ?_); replace hF := rl hF h₁; clear h₁; refine goes_oper_k rfl rfl (by k_ne) (fun K hK => ?_); go_simp; refine hK _ _ ⟨?_, ?_⟩; (focus (refine g_idle hD ?_; intro e he; have hm := mem_listed he; simp [go_sem, *] at hm; done)); clear hK K; try w_num))) | ((first | (with_reducible first | refine g_k false true hD rfl ?_ | refine g_ret hD ?_ | refine g_end hD ?_) | ((with_reducible refine g_ct hD ?_ ?_); (focus exact rfl)) | ((with_reducible refine g_cf hD ?_ ?_); (focus exact rfl))); intro _ h₁; replace hF := rl hF h₁; clear h₁) | ((with_reducible refine g_reg hD (fun _ h₁ => ?_)); replace hF := rl hF h₁; clear h₁; simp only [regN]) | ((with_reducible refine g_exit hD (k' := ?_) ?_ (fun _ h₁ => ?_)); rotate_left; (focus exact rfl); replace hF := rl hF h₁; clear h₁)))
  (first | ((with_reducible refine g_opG ?_); (first | (refine g_unw hD rfl rfl (fun _ h₁ => ?_); replace hF := rl hF h₁; clear h₁; walk_nrm) | (refine Goes.step rfl (fun _ h₁ => ?_); replace hF := rl hF h₁; clear h₁; refine goes_oper_k rfl rfl (by k_ne) (fun K hK => ?_); go_simp; refine hK _ _ ⟨?_, ?_⟩; (focus (refine g_idle hD ?_; intro e he; have hm := mem_listed he; simp [go_sem, *] at hm; done)); clear hK K; try w_num))) | ((first | (with_reducible first | refine g_k true true hD rfl ?_ | refine g_ret hD ?_ | refine g_end hD ?_) | ((with_reducible refine g_ct hD ?_ ?_); (focus exact rfl)) | ((with_reducible refine g_cf hD ?_ ?_); (focus exact rfl))); intro _ h₁; replace hF := rl hF h₁; clear h₁) | ((with_reducible refine g_reg hD (fun _ h₁ => ?_)); replace hF := rl hF h₁; clear h₁; simp only [regN]) | ((with_reducible refine g_exit hD (k' := ?_) ?_ (fun _ h₁ => ?_)); rotate_left; (focus exact rfl); replace hF := rl hF h₁; clear h₁))
  exact Goes.stop fun w₁ h₁ => hgo.out _ _ _ (rl hF h₁) rfl rfl rfl rfl rfl rfl rfl
set_option maxRecDepth 100000 in
set_option maxHeartbeats 8000000 in
theorem sp3 {Stop : Goroutine → World → Prop}  {F0 : World → Prop} (hF : F0 w) (s0 : Steady F0) {T : Array Value} (hs : T.size = 127) (t0 : T[0]? = some (.slice fa na ca)) (t1 : T[1]? = some (.slice fc nc cc)) (t7 : T[7]? = some (.int .i64 cut)) (t8 : T[8]? = some (vf)) (t36 : T[36]? = some (.int .i64 nc)) (t37 : T[37]? = some (.int .i64 nc)) (_hlt : decide ((nc : Int) < (nc : Int)) = false)
    (hgo : ∀ T w, F0 w → T.size = 127 → T[0]? = some (.slice fa na ca) → T[1]? = some (.slice fc nc cc) → T[7]? = some (.int .i64 cut) → T[8]? = some (vf) → Stop (G ((base 13).at ⟨#[.slice fa na ca, undef, undef, undef], []⟩ [.code body13]) ((base 6).at ⟨T, []⟩ (.inRegion (cO (cF (tl6 5))) [1, 2, 3, 4, 5, 6, 7, 8] :: [.code (tl6 6)]) :: cs)) w) :
    Goes Try.prog true AtRel (SD Shun) Stop 60 (G ((base 6).at ⟨T, []⟩ [.code lp6, .inLoop lp6, .inBlock 0, .code (tl6 5)]) cs) w := by
  have hD : ∀ w, SD Shun w w #[] := sd_idle
  have rl : ∀ {w w₁ : World}, F0 w → AtRel w w₁ → F0 w₁ := fun h r => s0.rel h r
  replace hgo := Hd.mk hgo
  obtain ⟨v, rfl⟩ := array127 T hs
  simp only [List.getElem?_toArray, List.getElem?_cons_zero, List.getElem?_cons_succ, Option.some.injEq] at t0 t1 t7 t8 t36 t37
  rw [t0, t1, t7, t8, t36, t37]
  clear hs
  simp only [tl6, body6, lp6, cO, cS, cF, cI, Try.f6, Option.getD_some, body13, Try.f13] at hgo ⊢
  try walk_nrm
  repeat ((first | ((with_reducible refine g_opG ?_); (first | (refine g_unw hD rfl rfl (fun _ h₁ => ?_); replace hF := rl hF h₁; clear h₁; walk_nrm) | (refine Goes.step rfl (fun _ h₁ => ?_); replace hF := rl hF h₁; clear h₁; refine goes_oper_k rfl rfl (by k_ne) (fun K hK => ?_); go_simp; refine hK _ _ ⟨?_, ?_⟩; (focus (refine g_idle hD ?_; intro e he; have hm := mem_listed he; simp [go_sem, *] at hm; done)); clear hK K; try w_num))) | ((first | (with_reducible first | refine g_k true true hD rfl ?_ | refine g_ret hD ?_ | refine g_end hD ?_) | ((with_reducible refine g_ct hD ?_ ?_); (focus exact rfl)) | ((with_reducible refine g_cf hD ?_ ?_); (focus exact rfl))); intro _ h₁; replace hF := rl hF h₁; clear h₁) | ((with_reducible refine g_reg hD (fun _ h₁ => ?_)); replace hF := rl hF h₁; clear h₁; simp only [regN]) | ((with_reducible refine g_exit hD (k' := ?_) ?_ (fun _ h₁ => ?_)); rotate_left; (focus exact rfl); replace hF := rl hF h₁; clear h₁)))
  ((with_reducible refine g_opG ?_); refine Goes.step rfl (fun _ h₁ => ?_); replace hF := rl hF h₁; clear h₁; refine goes_call rfl rfl (by k_ne) rfl Try.func13 rfl rfl ⟨by exact (g_idle hD (fun e he => by simp at he)), ?_⟩; walk_nrmf Try.f13)
  exact Goes.stop fun w₃ h₃ => hgo.out _ _ (rl hF h₃) rfl rfl rfl rfl rfl

set_option maxRecDepth 100000 in
set_option maxHeartbeats 8000000 in
theorem sp4 {Stop : Goroutine → World → Prop}  {F0 : World → Prop} (hF : F0 w) (s0 : Steady F0) {T : Array Value} (hs : T.size = 127) (t0 : T[0]? = some (.slice fa na ca)) (t1 : T[1]? = some (.slice fc nc cc)) (t7 : T[7]? = some (.int .i64 cut)) (t8 : T[8]? = some (.slice ff nf cf))
    (hgo : ∀ T w, F0 w → T.size = 127 → T[0]? = some (.slice fa na ca) → T[1]? = some (.slice fc nc cc) → T[7]? = some (.int .i64 cut) → T[8]? = some (.slice ff nf cf) → Stop (G ((base 16).at ⟨#[seqV kl, .slice ff nf cf, undef, undef, undef, undef, undef, undef, undef, undef, undef, undef, undef, undef, undef, undef, undef, undef, undef, undef, undef, undef, undef, undef, undef, undef, undef, undef, undef, undef, undef, undef, undef, undef, undef, undef, undef, undef, undef, undef, undef, undef, undef, undef, undef, undef, undef, undef, undef], []⟩ [.code body16]) ((base 6).at ⟨T, []⟩ (.inRegion (cO (cF (tl6 5))) [3, 4, 5, 6, 7, 8] :: [.code (tl6 6)]) :: cs)) w) :
    Goes Try.prog true AtRel (SD Shun) Stop 60 (G ((base 6).at ⟨T.setIfInBounds 51 (seqV kl), []⟩ (.inRegion (cO (cF (tl6 5))) [2, 3, 4, 5, 6, 7, 8] :: [.code (tl6 6)])) cs) w := by
  have hD : ∀ w, SD Shun w w #[] := sd_idle
  have rl : ∀ {w w₁ : World}, F0 w → AtRel w w₁ → F0 w₁ := fun h r => s0.rel h r
  replace hgo := Hd.mk hgo
  obtain ⟨v, rfl⟩ := array127 T hs
  simp only [List.getElem?_toArray, List.getElem?_cons_zero, List.getElem?_cons_succ, Option.some.injEq] at t0 t1 t7 t8
  rw [t0, t1, t7, t8]
  clear hs
  simp only [tl6, body6, cO, cS, cF, Try.f6, Option.getD_some, body16, Try.f16] at hgo ⊢
  try walk_nrm
  repeat ((first | ((with_reducible refine g_opG ?_); (first | (refine g_unw hD rfl rfl (fun _ h₁ => ?_); replace hF := rl hF h₁; clear h₁; walk_nrm) | (refine Goes.step rfl (fun _ h₁ => ?_); replace hF := rl hF h₁; clear h₁; refine goes_oper_k rfl rfl (by k_ne) (fun K hK => ?_); go_simp; refine hK _ _ ⟨?_, ?_⟩; (focus (refine g_idle hD ?_; intro e he; have hm := mem_listed he; simp [go_sem, *] at hm; done)); clear hK K; try w_num))) | ((first | (with_reducible first | refine g_k true true hD rfl ?_ | refine g_ret hD ?_ | refine g_end hD ?_) | ((with_reducible refine g_ct hD ?_ ?_); (focus exact rfl)) | ((with_reducible refine g_cf hD ?_ ?_); (focus exact rfl))); intro _ h₁; replace hF := rl hF h₁; clear h₁) | ((with_reducible refine g_reg hD (fun _ h₁ => ?_)); replace hF := rl hF h₁; clear h₁; simp only [regN]) | ((with_reducible refine g_exit hD (k' := ?_) ?_ (fun _ h₁ => ?_)); rotate_left; (focus exact rfl); replace hF := rl hF h₁; clear h₁)))
  ((with_reducible refine g_opG ?_); refine Goes.step rfl (fun _ h₁ => ?_); replace hF := rl hF h₁; clear h₁; refine goes_call rfl rfl (by k_ne) rfl Try.func16 rfl rfl ⟨by exact (g_idle hD (fun e he => by simp at he)), ?_⟩; walk_nrmf Try.f16)
  exact Goes.stop fun w₃ h₃ => hgo.out _ _ (rl hF h₃) rfl rfl rfl rfl rfl

set_option maxRecDepth 100000 in
set_option maxHeartbeats 8000000 in
theorem sp5 {Stop : Goroutine → World → Prop}  {F0 : World → Prop} (hF : F0 w) (s0 : Steady F0) {T : Array Value} (hs : T.size = 127) (t0 : T[0]? = some (.slice fa na ca)) (t7 : T[7]? = some (.int .i64 cut)) (t8 : T[8]? = some (.slice ff nf cf))
    (hgo : ∀ T w, F0 w → T.size = 127 → T[0]? = some (.slice fa na ca) → T[7]? = some (.int .i64 cut) → T[8]? = some (.slice ff nf cf) → T[10]? = some (v1) → T[11]? = some (.int .i64 0) → Stop (G ((base 6).at ⟨T, []⟩ [.code (.region 11 opsA true), .code (tl6 7)]) cs) w) :
    Goes Try.prog true AtRel (SD Shun) Stop 60 (G ((base 6).at ⟨T.setIfInBounds 53 (.tuple #[v1, .int .i64 0]), []⟩ (.inRegion (cO (cF (tl6 5))) [4, 5, 6, 7, 8] :: [.code (tl6 6)])) cs) w := by
  have hD : ∀ w, SD Shun w w #[] := sd_idle
  have rl : ∀ {w w₁ : World}, F0 w → AtRel w w₁ → F0 w₁ := fun h r => s0.rel h r
  replace hgo := Hd.mk hgo
  obtain ⟨v, rfl⟩ := array127 T hs
  simp only [List.getElem?_toArray, List.getElem?_cons_zero, List.getElem?_cons_succ, Option.some.injEq] at t0 t7 t8
  rw [t0, t7, t8]
  clear hs
  simp only [tl6, body6, opsA, cO, cS, cF, Try.f6, Option.getD_some] at hgo ⊢
  try walk_nrm
  repeat ((first | ((with_reducible refine g_opG ?_); (first | (refine g_unw hD rfl rfl (fun _ h₁ => ?_); replace hF := rl hF h₁; clear h₁; walk_nrm) | (refine Goes.step rfl (fun _ h₁ => ?_); replace hF := rl hF h₁; clear h₁; refine goes_oper_k rfl rfl (by k_ne) (fun K hK => ?_); go_simp; refine hK _ _ ⟨?_, ?_⟩; (focus (refine g_idle hD ?_; intro e he; have hm := mem_listed he; simp [go_sem, *] at hm; done)); clear hK K; try w_num))) | ((first | (with_reducible first | refine g_k true false hD rfl ?_ | refine g_ret hD ?_ | refine g_end hD ?_) | ((with_reducible refine g_ct hD ?_ ?_); (focus exact rfl)) | ((with_reducible refine g_cf hD ?_ ?_); (focus exact rfl))); intro _ h₁; replace hF := rl hF h₁; clear h₁) | ((with_reducible refine g_reg hD (fun _ h₁ => ?_)); replace hF := rl hF h₁; clear h₁; simp only [regN]) | ((with_reducible refine g_exit hD (k' := ?_) ?_ (fun _ h₁ => ?_)); rotate_left; (focus exact rfl); replace hF := rl hF h₁; clear h₁)))
  exact Goes.stop fun w₃ h₃ => hgo.out _ _ (rl hF h₃) rfl rfl rfl rfl rfl rfl

set_option maxRecDepth 100000 in
set_option maxHeartbeats 8000000 in
theorem sp6 {Stop : Goroutine → World → Prop}  {F0 : World → Prop} (hF : F0 w) (s0 : Steady F0) {T : Array Value} (hs : T.size = 127) (t0 : T[0]? = some (.slice fa na ca)) (t7 : T[7]? = some (.int .i64 cut)) (t8 : T[8]? = some (.slice ff nf cf)) (t10 : T[10]? = some (.slice fb nb cb)) (t11 : T[11]? = some (.int .i64 0)) (t13 : T[13]? = some (.int .i64 0)) (t14 : T[14]? = some (.slice fc nc cc)) (t15 : T[15]? = some (.int .i64 0))
    (hgo : ∀ T w, F0 w → T.size = 127 → T[0]? = some (.slice fa na ca) → T[7]? = some (.int .i64 cut) → T[8]? = some (.slice ff nf cf) → T[84]? = some (.bool false) → Stop (G ((base 14).at ⟨#[.slice fb nb cb, .slice fc nc cc, undef, undef, undef, undef, undef, undef, undef, undef, undef, undef, undef, undef, undef, undef, undef, undef, undef, undef, undef, undef, undef, undef, undef, undef], []⟩ [.code body14]) ((base 6).at ⟨T, []⟩ (.inRegion (cO (cF (cF (tl6 8)))) [13, 14, 15] :: [.code (cS (cF (tl6 8))), .code (tl6 9)]) :: cs)) w) :
    Goes Try.prog true AtRel (SD Shun) Stop 60 (G ((base 6).at ⟨T, []⟩ [.code (tl6 8)]) cs) w := by
  have hD : ∀ w, SD Shun w w #[] := sd_idle
  have rl : ∀ {w w₁ : World}, F0 w → AtRel w w₁ → F0 w₁ := fun h r => s0.rel h r
  replace hgo := Hd.mk hgo
  obtain ⟨v, rfl⟩ := array127 T hs
  simp only [List.getElem?_toArray, List.getElem?_cons_zero, List.getElem?_cons_succ, Option.some.injEq] at t0 t7 t8 t10 t11 t13 t14 t15
  rw [t0, t7, t8, t10, t11, t13, t14, t15]
  clear hs
  simp only [tl6, body6, cO, cS, cF, Try.f6, Option.getD_some, body14, Try.f14] at hgo ⊢
  try walk_nrm
  repeat ((first | ((with_reducible refine g_opG ?_); (first | (refine g_unw hD rfl rfl (fun _ h₁ => ?_); replace hF := rl hF h₁; clear h₁; walk_nrm) | (refine Goes.step rfl (fun _ h₁ => ?_); replace hF := rl hF h₁; clear h₁; refine goes_oper_k rfl rfl (by k_ne) (fun K hK => ?_); go_simp; refine hK _ _ ⟨?_, ?_⟩; (focus (refine g_idle hD ?_; intro e he; have hm := mem_listed he; simp [go_sem, *] at hm; done)); clear hK K; try w_num))) | ((first | (with_reducible first | refine g_k true true hD rfl ?_ | refine g_ret hD ?_ | refine g_end hD ?_) | ((with_reducible refine g_ct hD ?_ ?_); (focus exact rfl)) | ((with_reducible refine g_cf hD ?_ ?_); (focus exact rfl))); intro _ h₁; replace hF := rl hF h₁; clear h₁) | ((with_reducible refine g_reg hD (fun _ h₁ => ?_)); replace hF := rl hF h₁; clear h₁; simp only [regN]) | ((with_reducible refine g_exit hD (k' := ?_) ?_ (fun _ h₁ => ?_)); rotate_left; (focus exact rfl); replace hF := rl hF h₁; clear h₁)))
  ((with_reducible refine g_opG ?_); refine Goes.step rfl (fun _ h₁ => ?_); replace hF := rl hF h₁; clear h₁; refine goes_call rfl rfl (by k_ne) rfl Try.func14 rfl rfl ⟨by exact (g_idle hD (fun e he => by simp at he)), ?_⟩; walk_nrmf Try.f14)
  exact Goes.stop fun w₃ h₃ => hgo.out _ _ (rl hF h₃) rfl rfl rfl rfl rfl

set_option maxRecDepth 100000 in
set_option maxHeartbeats 8000000 in
theorem sp7z {Stop : Goroutine → World → Prop}  {F0 : World → Prop} (hF : F0 w) (s0 : Steady F0) {T : Array Value} (hs : T.size = 127) (t7 : T[7]? = some (.int .i64 0)) (t84 : T[84]? = some (.bool false))
    (hgo : ∀ T w, F0 w → T.size = 127 → Stop (G ((base 10).at ⟨#[undef, undef, undef, undef, undef, undef, undef, undef, undef, undef, undef, undef, undef, undef, undef, undef, undef, undef, undef, undef, undef, undef, undef, undef, undef, undef, undef, undef, undef, undef, undef, undef, undef, undef, undef, undef, undef, undef, undef, undef, undef, undef, undef, undef, undef, undef, undef, undef, undef], []⟩ [.code body10]) ((base 6).at ⟨T, []⟩ (.inRegion (cO (cF (cT (cS (cF (tl6 9)))))) [0, 1] :: [.code (cS (cT (cS (cF (tl6 9))))), .code (tl6 10)]) :: cs)) w) :
    Goes Try.prog true AtRel (SD Shun) Stop 60 (G ((base 6).at ⟨T.setIfInBounds 87 (.bool true), []⟩ (.inRegion (cO (cF (cF (tl6 8)))) [14, 15] :: [.code (cS (cF (tl6 8))), .code (tl6 9)])) cs) w := by
  have hD : ∀ w, SD Shun w w #[] := sd_idle
  have rl : ∀ {w w₁ : World}, F0 w → AtRel w w₁ → F0 w₁ := fun h r => s0.rel h r
  replace hgo := Hd.mk hgo
  obtain ⟨v, rfl⟩ := array127 T hs
  simp only [List.getElem?_toArray, List.getElem?_cons_zero, List.getElem?_cons_succ, Option.some.injEq] at t7 t84
  rw [t7, t84]
  clear hs
  simp only [tl6, body6, cT, cO, cS, cF, Try.f6, Option.getD_some, body10, Try.f10] at hgo ⊢
  try walk_nrm
  repeat ((first | ((with_reducible refine g_opG ?_); (first | (refine g_unw hD rfl rfl (fun _ h₁ => ?_); replace hF := rl hF h₁; clear h₁; walk_nrm) | (refine Goes.step rfl (fun _ h₁ => ?_); replace hF := rl hF h₁; clear h₁; refine goes_oper_k rfl rfl (by k_ne) (fun K hK => ?_); go_simp; refine hK _ _ ⟨?_, ?_⟩; (focus (refine g_idle hD ?_; intro e he; have hm := mem_listed he; simp [go_sem, *] at hm; done)); clear hK K; try w_num))) | ((first | (with_reducible first | refine g_k true true hD rfl ?_ | refine g_ret hD ?_ | refine g_end hD ?_) | ((with_reducible refine g_ct hD ?_ ?_); (focus exact rfl)) | ((with_reducible refine g_cf hD ?_ ?_); (focus exact rfl))); intro _ h₁; replace hF := rl hF h₁; clear h₁) | ((with_reducible refine g_reg hD (fun _ h₁ => ?_)); replace hF := rl hF h₁; clear h₁; simp only [regN]) | ((with_reducible refine g_exit hD (k' := ?_) ?_ (fun _ h₁ => ?_)); rotate_left; (focus exact rfl); replace hF := rl hF h₁; clear h₁)))
  ((with_reducible refine g_opG ?_); refine Goes.step rfl (fun _ h₁ => ?_); replace hF := rl hF h₁; clear h₁; refine goes_call rfl rfl (by k_ne) rfl Try.func10 rfl rfl ⟨by exact (g_idle hD (fun e he => by simp at he)), ?_⟩; walk_nrmf Try.f10)
  exact Goes.stop fun w₃ h₃ => hgo.out _ _ (rl hF h₃) rfl

set_option maxRecDepth 100000 in
set_option maxHeartbeats 8000000 in
theorem sp7 {Stop : Goroutine → World → Prop}  {F0 : World → Prop} (hF : F0 w) (s0 : Steady F0) {T : Array Value} (hs : T.size = 127) (t0 : T[0]? = some (.slice fa na ca)) (t7 : T[7]? = some (.int .i64 cut)) (t8 : T[8]? = some (.slice ff nf cf)) (t84 : T[84]? = some (.bool false)) (hcz : ((cut : Int) == 0) = false)
    (hgo : ∀ T w, F0 w → T.size = 127 → T[0]? = some (.slice fa na ca) → T[7]? = some (.int .i64 cut) → T[8]? = some (.slice ff nf cf) → Stop (G ((base 6).at ⟨T, []⟩ [.code (.region 17 opsC true), .code (tl6 11)]) cs) w) :
    Goes Try.prog true AtRel (SD Shun) Stop 60 (G ((base 6).at ⟨T.setIfInBounds 87 (.bool true), []⟩ (.inRegion (cO (cF (cF (tl6 8)))) [14, 15] :: [.code (cS (cF (tl6 8))), .code (tl6 9)])) cs) w := by
  have hD : ∀ w, SD Shun w w #[] := sd_idle
  have rl : ∀ {w w₁ : World}, F0 w → AtRel w w₁ → F0 w₁ := fun h r => s0.rel h r
  replace hgo := Hd.mk hgo
  obtain ⟨v, rfl⟩ := array127 T hs
  simp only [List.getElem?_toArray, List.getElem?_cons_zero, List.getElem?_cons_succ, Option.some.injEq] at t0 t7 t8 t84
  rw [t0, t7, t8, t84]
  clear hs
  simp only [tl6, body6, opsC, cO, cS, cF, Try.f6, Option.getD_some] at hgo ⊢
  try walk_nrm
  repeat ((first | ((with_reducible refine g_opG ?_); (first | (refine g_unw hD rfl rfl (fun _ h₁ => ?_); replace hF := rl hF h₁; clear h₁; walk_nrm) | (refine Goes.step rfl (fun _ h₁ => ?_); replace hF := rl hF h₁; clear h₁; refine goes_oper_k rfl rfl (by k_ne) (fun K hK => ?_); go_simp; refine hK _ _ ⟨?_, ?_⟩; (focus (refine g_idle hD ?_; intro e he; have hm := mem_listed he; simp [go_sem, *] at hm; done)); clear hK K; try w_num))) | ((first | (with_reducible first | refine g_k true false hD rfl ?_ | refine g_ret hD ?_ | refine g_end hD ?_) | ((with_reducible refine g_ct hD ?_ ?_); (focus exact rfl)) | ((with_reducible refine g_cf hD ?_ ?_); (focus exact rfl))); intro _ h₁; replace hF := rl hF h₁; clear h₁) | ((with_reducible refine g_reg hD (fun _ h₁ => ?_)); replace hF := rl hF h₁; clear h₁; simp only [regN]) | ((with_reducible refine g_exit hD (k' := ?_) ?_ (fun _ h₁ => ?_)); rotate_left; (focus exact rfl); replace hF := rl hF h₁; clear h₁)))
  exact Goes.stop fun w₃ h₃ => hgo.out _ _ (rl hF h₃) rfl rfl rfl rfl

set_option maxRecDepth 100000 in
set_option maxHeartbeats 8000000 in
theorem sp8 {Stop : Goroutine → World → Prop}  {F0 : World → Prop} (hF : F0 w) (s0 : Steady F0) {T : Array Value} (hs : T.size = 127)
    (hgo : ∀ T k w, F0 w → T.size = 127 → T[6]? = some (.bool true) → Stop (G { (base 6).at ⟨T, []⟩ k with mode := .returning } []) w) :
    Goes Try.prog true AtRel (SD Shun) Stop 60 (G ((base 6).at ⟨T.setIfInBounds 92 (.bool true), []⟩ (.inRegion (cO (cF (cT (cS (cF (tl6 9)))))) [1] :: [.code (cS (cT (cS (cF (tl6 9))))), .code (tl6 10)])) []) w := by
  have hD : ∀ w, SD Shun w w #[] := sd_idle
  have rl : ∀ {w w₁ : World}, F0 w → AtRel w w₁ → F0 w₁ := fun h r => s0.rel h r
  replace hgo := Hd.mk hgo
  obtain ⟨v, rfl⟩ := array127 T hs
  clear hs
  simp only [tl6, body6, cT, cO, cS, cF, Try.f6, Option.getD_some] at hgo ⊢
  try walk_nrm
  repeat ((first | ((with_reducible refine g_opG ?_); (first | (refine g_unw hD rfl rfl (fun _ h₁ => ?_); replace hF := rl hF h₁; clear h₁; walk_nrm) | (refine Goes.step rfl (fun _ h₁ => ?_); replace hF := rl hF h₁; clear h₁; refine goes_oper_k rfl rfl (by k_ne) (fun K hK => ?_); go_simp; refine hK _ _ ⟨?_, ?_⟩; (focus (refine g_idle hD ?_; intro e he; have hm := mem_listed he; simp [go_sem, *] at hm; done)); clear hK K; try w_num))) | ((first | (with_reducible first | refine g_k true true hD rfl ?_ | refine g_ret hD ?_ | refine g_end hD ?_) | ((with_reducible refine g_ct hD ?_ ?_); (focus exact rfl)) | ((with_reducible refine g_cf hD ?_ ?_); (focus exact rfl))); intro _ h₁; replace hF := rl hF h₁; clear h₁) | ((with_reducible refine g_reg hD (fun _ h₁ => ?_)); replace hF := rl hF h₁; clear h₁; simp only [regN]) | ((with_reducible refine g_exit hD (k' := ?_) ?_ (fun _ h₁ => ?_)); rotate_left; (focus exact rfl); replace hF := rl hF h₁; clear h₁)))
  exact Goes.stop fun w₃ h₃ => hgo.out _ _ _ (rl hF h₃) rfl rfl

set_option maxRecDepth 100000 in
set_option maxHeartbeats 8000000 in
theorem sp9 {Stop : Goroutine → World → Prop}  {F0 : World → Prop} (hF : F0 w) (s0 : Steady F0) {T : Array Value} (hs : T.size = 127) (t16 : T[16]? = some (.slice fa na ca)) (t17 : T[17]? = some (.int .i64 0)) (t18 : T[18]? = some (.slice fb nb cb)) (t19 : T[19]? = some (.int .i64 0))
    (hgo : ∀ T w, F0 w → T.size = 127 → T[119]? = some (.bool true) → Stop (G ((base 14).at ⟨#[.slice fa na ca, .slice fb nb cb, undef, undef, undef, undef, undef, undef, undef, undef, undef, undef, undef, undef, undef, undef, undef, undef, undef, undef, undef, undef, undef, undef, undef, undef], []⟩ [.code body14]) ((base 6).at ⟨T, []⟩ (.inRegion (cO (cF (tl6 12))) [9, 10, 11, 12, 13, 14] :: [.code (cS (tl6 12))]) :: cs)) w) :
    Goes Try.prog true AtRel (SD Shun) Stop 60 (G ((base 6).at ⟨T, []⟩ [.code (tl6 12)]) cs) w := by
  have hD : ∀ w, SD Shun w w #[] := sd_idle
  have rl : ∀ {w w₁ : World}, F0 w → AtRel w w₁ → F0 w₁ := fun h r => s0.rel h r
  replace hgo := Hd.mk hgo
  obtain ⟨v, rfl⟩ := array127 T hs
  simp only [List.getElem?_toArray, List.getElem?_cons_zero, List.getElem?_cons_succ, Option.some.injEq] at t16 t17 t18 t19
  rw [t16, t17, t18, t19]
  clear hs
  simp only [tl6, body6, cO, cS, cF, Try.f6, Option.getD_some, body14, Try.f14] at hgo ⊢
  try walk_nrm
  repeat ((first | ((with_reducible refine g_opG ?_); (first | (refine g_unw hD rfl rfl (fun _ h₁ => ?_); replace hF := rl hF h₁; clear h₁; walk_nrm) | (refine Goes.step rfl (fun _ h₁ => ?_); replace hF := rl hF h₁; clear h₁; refine goes_oper_k rfl rfl (by k_ne) (fun K hK => ?_); go_simp; refine hK _ _ ⟨?_, ?_⟩; (focus (refine g_idle hD ?_; intro e he; have hm := mem_listed he; simp [go_sem, *] at hm; done)); clear hK K; try w_num))) | ((first | (with_reducible first | refine g_k true true hD rfl ?_ | refine g_ret hD ?_ | refine g_end hD ?_) | ((with_reducible refine g_ct hD ?_ ?_); (focus exact rfl)) | ((with_reducible refine g_cf hD ?_ ?_); (focus exact rfl))); intro _ h₁; replace hF := rl hF h₁; clear h₁) | ((with_reducible refine g_reg hD (fun _ h₁ => ?_)); replace hF := rl hF h₁; clear h₁; simp only [regN]) | ((with_reducible refine g_exit hD (k' := ?_) ?_ (fun _ h₁ => ?_)); rotate_left; (focus exact rfl); replace hF := rl hF h₁; clear h₁)))
  ((with_reducible refine g_opG ?_); refine Goes.step rfl (fun _ h₁ => ?_); replace hF := rl hF h₁; clear h₁; refine goes_call rfl rfl (by k_ne) rfl Try.func14 rfl rfl ⟨by exact (g_idle hD (fun e he => by simp at he)), ?_⟩; walk_nrmf Try.f14)
  exact Goes.stop fun w₃ h₃ => hgo.out _ _ (rl hF h₃) rfl rfl

set_option maxRecDepth 100000 in
set_option maxHeartbeats 8000000 in
theorem sp10 {Stop : Goroutine → World → Prop}  {F0 : World → Prop} (hF : F0 w) (s0 : Steady F0) {T : Array Value} (hs : T.size = 127) (t119 : T[119]? = some (.bool true))
    (hgo : ∀ T w, F0 w → T.size = 127 → T[124]? = some (.bool true) → Stop (G ((base 10).at ⟨#[undef, undef, undef, undef, undef, undef, undef, undef, undef, undef, undef, undef, undef, undef, undef, undef, undef, undef, undef, undef, undef, undef, undef, undef, undef, undef, undef, undef, undef, undef, undef, undef, undef, undef, undef, undef, undef, undef, undef, undef, undef, undef, undef, undef, undef, undef, undef, undef, undef], []⟩ [.code body10]) ((base 6).at ⟨T, []⟩ (.inRegion (cO (cF (tl6 12))) [12, 13, 14] :: [.code (cS (tl6 12))]) :: cs)) w) :
    Goes Try.prog true AtRel (SD Shun) Stop 60 (G ((base 6).at ⟨T.setIfInBounds 122 (.bool true), []⟩ (.inRegion (cO (cF (tl6 12))) [10, 11, 12, 13, 14] :: [.code (cS (tl6 12))])) cs) w := by
  have hD : ∀ w, SD Shun w w #[] := sd_idle
  have rl : ∀ {w w₁ : World}, F0 w → AtRel w w₁ → F0 w₁ := fun h r => s0.rel h r
  replace hgo := Hd.mk hgo
  obtain ⟨v, rfl⟩ := array127 T hs
  simp only [List.getElem?_toArray, List.getElem?_cons_zero, List.getElem?_cons_succ, Option.some.injEq] at t119
  rw [t119]
  clear hs
  simp only [tl6, body6, cO, cS, cF, Try.f6, Option.getD_some, body10, Try.f10] at hgo ⊢
  try walk_nrm
  repeat ((first | ((with_reducible refine g_opG ?_); (first | (refine g_unw hD rfl rfl (fun _ h₁ => ?_); replace hF := rl hF h₁; clear h₁; walk_nrm) | (refine Goes.step rfl (fun _ h₁ => ?_); replace hF := rl hF h₁; clear h₁; refine goes_oper_k rfl rfl (by k_ne) (fun K hK => ?_); go_simp; refine hK _ _ ⟨?_, ?_⟩; (focus (refine g_idle hD ?_; intro e he; have hm := mem_listed he; simp [go_sem, *] at hm; done)); clear hK K; try w_num))) | ((first | (with_reducible first | refine g_k true true hD rfl ?_ | refine g_ret hD ?_ | refine g_end hD ?_) | ((with_reducible refine g_ct hD ?_ ?_); (focus exact rfl)) | ((with_reducible refine g_cf hD ?_ ?_); (focus exact rfl))); intro _ h₁; replace hF := rl hF h₁; clear h₁) | ((with_reducible refine g_reg hD (fun _ h₁ => ?_)); replace hF := rl hF h₁; clear h₁; simp only [regN]) | ((with_reducible refine g_exit hD (k' := ?_) ?_ (fun _ h₁ => ?_)); rotate_left; (focus exact rfl); replace hF := rl hF h₁; clear h₁)))
  ((with_reducible refine g_opG ?_); refine Goes.step rfl (fun _ h₁ => ?_); replace hF := rl hF h₁; clear h₁; refine goes_call rfl rfl (by k_ne) rfl Try.func10 rfl rfl ⟨by exact (g_idle hD (fun e he => by simp at he)), ?_⟩; walk_nrmf Try.f10)
  exact Goes.stop fun w₃ h₃ => hgo.out _ _ (rl hF h₃) rfl rfl

set_option maxRecDepth 100000 in
set_option maxHeartbeats 8000000 in
theorem sp11 {Stop : Goroutine → World → Prop}  {F0 : World → Prop} (hF : F0 w) (s0 : Steady F0) {T : Array Value} (hs : T.size = 127) (t124 : T[124]? = some (.bool true))
    (hgo : ∀ T k w, F0 w → T.size = 127 → T[6]? = some (.bool true) → Stop (G { (base 6).at ⟨T, []⟩ k with mode := .returning } []) w) :
    Goes Try.prog true AtRel (SD Shun) Stop 60 (G ((base 6).at ⟨T.setIfInBounds 125 (.bool true), []⟩ (.inRegion (cO (cF (tl6 12))) [13, 14] :: [.code (cS (tl6 12))])) []) w := by
  have hD : ∀ w, SD Shun w w #[] := sd_idle
  have rl : ∀ {w w₁ : World}, F0 w → AtRel w w₁ → F0 w₁ := fun h r => s0.rel h r
  replace hgo := Hd.mk hgo
  obtain ⟨v, rfl⟩ := array127 T hs
  simp only [List.getElem?_toArray, List.getElem?_cons_zero, List.getElem?_cons_succ, Option.some.injEq] at t124
  rw [t124]
  clear hs
  simp only [tl6, body6, cO, cS, cF, Try.f6, Option.getD_some] at hgo ⊢
  try walk_nrm
  repeat ((first | ((with_reducible refine g_opG ?_); (first | (refine g_unw hD rfl rfl (fun _ h₁ => ?_); replace hF := rl hF h₁; clear h₁; walk_nrm) | (refine Goes.step rfl (fun _ h₁ => ?_); replace hF := rl hF h₁; clear h₁; refine goes_oper_k rfl rfl (by k_ne) (fun K hK => ?_); go_simp; refine hK _ _ ⟨?_, ?_⟩; (focus (refine g_idle hD ?_; intro e he; have hm := mem_listed he; simp [go_sem, *] at hm; done)); clear hK K; try w_num))) | ((first | (with_reducible first | refine g_k true true hD rfl ?_ | refine g_ret hD ?_ | refine g_end hD ?_) | ((with_reducible refine g_ct hD ?_ ?_); (focus exact rfl)) | ((with_reducible refine g_cf hD ?_ ?_); (focus exact rfl))); intro _ h₁; replace hF := rl hF h₁; clear h₁) | ((with_reducible refine g_reg hD (fun _ h₁ => ?_)); replace hF := rl hF h₁; clear h₁; simp only [regN]) | ((with_reducible refine g_exit hD (k' := ?_) ?_ (fun _ h₁ => ?_)); rotate_left; (focus exact rfl); replace hF := rl hF h₁; clear h₁)))
  exact Goes.stop fun w₃ h₃ => hgo.out _ _ _ (rl hF h₃) rfl rfl

end
end Go.Proofs.Ytblpmdolclalnaa
