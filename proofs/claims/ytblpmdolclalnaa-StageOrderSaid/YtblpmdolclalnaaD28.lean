/- The law StageOrder: pieces of its walk about the call of Chain. The law StageOrder: its first two loops. A list's iterator is made: its box is new. The law StageOrder: what the call of Chain wants lies ready; what it leaves. The law StageOrder: the rounds of the loops that read what the stages met. -/
import Derived.Test.YtblpmdolclalnaaD27
namespace Go.Proofs.Ytblpmdolclalnaa
open Go.Conc Go.RowKit Go.Conc.Lib Go.ConcR.Gen Go.ConcN.Gen
noncomputable def lp5c : Code := cI (cI (cS (cF (tl5 9))))
section
variable {Shun : Nat → Prop} {w w₁ : World} {cs : List Frame} {k m em n9 c9 nf cf c1 kl : Nat} {f9 ff f1 : Option Addr}
set_option maxRecDepth 100000 in
set_option maxHeartbeats 8000000 in
theorem oc1 {Stop : Goroutine → World → Prop}  {F0 : World → Prop} (hF : F0 w) (s0 : Steady F0) {T : Array Value} (hs : T.size = 103) (t5 : T[5]? = some (.int .i64 k)) (t6 : T[6]? = some (ptr em)) (t7 : T[7]? = some (.slice ff nf cf)) (t9 : T[9]? = some (.slice f9 n9 c9)) (t31 : T[31]? = some (.int .i64 m)) (t32 : T[32]? = some (.int .i64 m)) (_hlt : decide (m < m) = false)
    (hgo : ∀ T w, F0 w → T.size = 103 → T[5]? = some (.int .i64 k) → T[6]? = some (ptr em) → T[7]? = some (.slice ff nf cf) → T[9]? = some (.slice f9 n9 c9) → Stop (G ((base 13).at ⟨#[.slice f9 n9 c9, undef, undef, undef], []⟩ [.code body13]) ((base 5).at ⟨T, []⟩ (.inRegion (cO (cF (tl5 7))) [1, 2, 3, 4, 5, 6, 7, 8] :: [.code (tl5 8)]) :: cs)) w) :
    Goes Try.prog true AtRel (SD Shun) Stop 60 (G ((base 5).at ⟨T, []⟩ [.code lp5b, .inLoop lp5b, .inBlock 2, .code (tl5 7)]) cs) w := by
  have hD : ∀ w, SD Shun w w #[] := sd_idle
  have rl : ∀ {w w₁ : World}, F0 w → AtRel w w₁ → F0 w₁ := fun h r => s0.rel h r
  replace hgo := Hd.mk hgo
  obtain ⟨v, rfl⟩ := array103 T hs
  simp only [List.getElem?_toArray, List.getElem?_cons_zero, List.getElem?_cons_succ, Option.some.injEq] at t5 t6 t7 t9 t31 t32
  rw [t5, t6, t7, t9, t31, t32]
  clear hs
  simp only [tl5, body5, lp5b, cO, cS, cF, cI, Try.f5, Option.getD_some, body13, Try.f13] at hgo ⊢
  try walk_nrm
  repeat ((first | ((with_reducible refine g_opG ?_); (first | (refine g_unw hD rfl rfl (fun _ h₁ => ?_); replace hF := rl hF h₁; clear h₁; walk_nrm) | (refine Goes.step rfl (fun _ h₁ => ?_); replace hF := rl hF h₁; clear h₁; refine goes_oper_k rfl rfl (by k_ne) (fun K hK => ?_); go_simp; refine hK _ _ ⟨?_, ?_⟩; (focus (refine g_idle hD ?_; intro e he; have hm := mem_listed he; simp [go_sem, *] at hm; done)); clear hK K; try w_num))) | ((first | (with_reducible first | refine g_k true true hD rfl ?_ | refine g_ret hD ?_ | refine g_end hD ?_) | ((with_reducible refine g_ct hD ?_ ?_); (focus exact rfl)) | ((with_reducible refine g_cf hD ?_ ?_); (focus exact rfl))); intro _ h₁; replace hF := rl hF h₁; clear h₁) | ((with_reducible refine g_reg hD (fun _ h₁ => ?_)); replace hF := rl hF h₁; clear h₁; simp only [regN]) | ((with_reducible refine g_exit hD (k' := ?_) ?_ (fun _ h₁ => ?_)); rotate_left; (focus exact rfl); replace hF := rl hF h₁; clear h₁)))
  ((with_reducible refine g_opG ?_); refine Goes.step rfl (fun _ h₁ => ?_); replace hF := rl hF h₁; clear h₁; refine goes_call rfl rfl (by k_ne) rfl Try.func13 rfl rfl ⟨by exact (g_idle hD (fun e he => by simp at he)), ?_⟩; walk_nrmf Try.f13)
  exact Goes.stop fun w₃ h₃ => hgo.out _ _ (rl hF h₃) rfl rfl rfl rfl rfl

set_option maxRecDepth 100000 in
set_option maxHeartbeats 8000000 in
theorem oc2 {Stop : Goroutine → World → Prop}  {F0 : World → Prop} (hF : F0 w) (s0 : Steady F0) {T : Array Value} (hs : T.size = 103) (t5 : T[5]? = some (.int .i64 k)) (t6 : T[6]? = some (ptr em)) (t7 : T[7]? = some (.slice ff nf cf)) (t9 : T[9]? = some (.slice f9 n9 c9))
    (hgo : ∀ T w, F0 w → T.size = 103 → T[5]? = some (.int .i64 k) → T[6]? = some (ptr em) → T[9]? = some (.slice f9 n9 c9) → Stop (G ((base 16).at ⟨#[seqV kl, .slice ff nf cf, undef, undef, undef, undef, undef, undef, undef, undef, undef, undef, undef, undef, undef, undef, undef, undef, undef, undef, undef, undef, undef, undef, undef, undef, undef, undef, undef, undef, undef, undef, undef, undef, undef, undef, undef, undef, undef, undef, undef, undef, undef, undef, undef, undef, undef, undef, undef], []⟩ [.code body16]) ((base 5).at ⟨T, []⟩ (.inRegion (cO (cF (tl5 7))) [3, 4, 5, 6, 7, 8] :: [.code (tl5 8)]) :: cs)) w) :
    Goes Try.prog true AtRel (SD Shun) Stop 60 (G ((base 5).at ⟨T.setIfInBounds 42 (seqV kl), []⟩ (.inRegion (cO (cF (tl5 7))) [2, 3, 4, 5, 6, 7, 8] :: [.code (tl5 8)])) cs) w := by
  have hD : ∀ w, SD Shun w w #[] := sd_idle
  have rl : ∀ {w w₁ : World}, F0 w → AtRel w w₁ → F0 w₁ := fun h r => s0.rel h r
  replace hgo := Hd.mk hgo
  obtain ⟨v, rfl⟩ := array103 T hs
  simp only [List.getElem?_toArray, List.getElem?_cons_zero, List.getElem?_cons_succ, Option.some.injEq] at t5 t6 t7 t9
  rw [t5, t6, t7, t9]
  clear hs
  simp only [tl5, body5, cO, cS, cF, Try.f5, Option.getD_some, body16, Try.f16] at hgo ⊢
  try walk_nrm
  repeat ((first | ((with_reducible refine g_opG ?_); (first | (refine g_unw hD rfl rfl (fun _ h₁ => ?_); replace hF := rl hF h₁; clear h₁; walk_nrm) | (refine Goes.step rfl (fun _ h₁ => ?_); replace hF := rl hF h₁; clear h₁; refine goes_oper_k rfl rfl (by k_ne) (fun K hK => ?_); go_simp; refine hK _ _ ⟨?_, ?_⟩; (focus (refine g_idle hD ?_; intro e he; have hm := mem_listed he; simp [go_sem, *] at hm; done)); clear hK K; try w_num))) | ((first | (with_reducible first | refine g_k true true hD rfl ?_ | refine g_ret hD ?_ | refine g_end hD ?_) | ((with_reducible refine g_ct hD ?_ ?_); (focus exact rfl)) | ((with_reducible refine g_cf hD ?_ ?_); (focus exact rfl))); intro _ h₁; replace hF := rl hF h₁; clear h₁) | ((with_reducible refine g_reg hD (fun _ h₁ => ?_)); replace hF := rl hF h₁; clear h₁; simp only [regN]) | ((with_reducible refine g_exit hD (k' := ?_) ?_ (fun _ h₁ => ?_)); rotate_left; (focus exact rfl); replace hF := rl hF h₁; clear h₁)))
  ((with_reducible refine g_opG ?_); refine Goes.step rfl (fun _ h₁ => ?_); replace hF := rl hF h₁; clear h₁; refine goes_call rfl rfl (by k_ne) rfl Try.func16 rfl rfl ⟨by exact (g_idle hD (fun e he => by simp at he)), ?_⟩; walk_nrmf Try.f16)
  exact Goes.stop fun w₃ h₃ => hgo.out _ _ (rl hF h₃) rfl rfl rfl rfl

set_option maxRecDepth 100000 in
set_option maxHeartbeats 8000000 in
theorem oc3 {Stop : Goroutine → World → Prop}  {F0 : World → Prop} (hF : F0 w) (s0 : Steady F0) {T : Array Value} (hs : T.size = 103) (t5 : T[5]? = some (.int .i64 k)) (t6 : T[6]? = some (ptr em)) (t9 : T[9]? = some (.slice f9 n9 c9))
    (hgo : ∀ T w, F0 w → T.size = 103 → T[5]? = some (.int .i64 k) → T[6]? = some (ptr em) → T[9]? = some (.slice f9 n9 c9) → T[11]? = some (.slice f1 n9 c1) → T[56]? = some (.int .i64 k) → T[57]? = some (.int .i64 0) → Stop (G ((base 5).at ⟨T, []⟩ [.code lp5c, .inLoop lp5c, .inBlock 4, .code (tl5 10)]) cs) w) :
    Goes Try.prog true AtRel (SD Shun) Stop 60 (G ((base 5).at ⟨T.setIfInBounds 44 (.tuple #[.slice f1 n9 c1, .int .i64 0]), []⟩ (.inRegion (cO (cF (tl5 7))) [4, 5, 6, 7, 8] :: [.code (tl5 8)])) cs) w := by
  have hD : ∀ w, SD Shun w w #[] := sd_idle
  have rl : ∀ {w w₁ : World}, F0 w → AtRel w w₁ → F0 w₁ := fun h r => s0.rel h r
  replace hgo := Hd.mk hgo
  obtain ⟨v, rfl⟩ := array103 T hs
  simp only [List.getElem?_toArray, List.getElem?_cons_zero, List.getElem?_cons_succ, Option.some.injEq] at t5 t6 t9
  rw [t5, t6, t9]
  clear hs
  simp only [tl5, body5, lp5c, cO, cS, cF, cI, Try.f5, Option.getD_some] at hgo ⊢
  try walk_nrm
  repeat ((first | ((with_reducible refine g_opG ?_); (first | (refine g_unw hD rfl rfl (fun _ h₁ => ?_); replace hF := rl hF h₁; clear h₁; walk_nrm) | (refine Goes.step rfl (fun _ h₁ => ?_); replace hF := rl hF h₁; clear h₁; refine goes_oper_k rfl rfl (by k_ne) (fun K hK => ?_); go_simp; refine hK _ _ ⟨?_, ?_⟩; (focus (refine g_idle hD ?_; intro e he; have hm := mem_listed he; simp [go_sem, *] at hm; done)); clear hK K; try w_num))) | ((first | (with_reducible first | refine g_k true false hD rfl ?_ | refine g_ret hD ?_ | refine g_end hD ?_) | ((with_reducible refine g_ct hD ?_ ?_); (focus exact rfl)) | ((with_reducible refine g_cf hD ?_ ?_); (focus exact rfl))); intro _ h₁; replace hF := rl hF h₁; clear h₁) | ((with_reducible refine g_reg hD (fun _ h₁ => ?_)); replace hF := rl hF h₁; clear h₁; simp only [regN]) | ((with_reducible refine g_exit hD (k' := ?_) ?_ (fun _ h₁ => ?_)); rotate_left; (focus exact rfl); replace hF := rl hF h₁; clear h₁)))
  (first | ((with_reducible refine g_opG ?_); (first | (refine g_unw hD rfl rfl (fun _ h₁ => ?_); replace hF := rl hF h₁; clear h₁; walk_nrm) | (refine Goes.step rfl (fun _ h₁ => ?_); replace hF := rl hF h₁; clear h₁; refine goes_oper_k rfl rfl (by k_ne) (fun K hK => ?_); go_simp; refine hK _ _ ⟨?_, ?_⟩; (focus (refine g_idle hD ?_; intro e he; have hm := mem_listed he; simp [go_sem, *] at hm; done)); clear hK K; try w_num))) | ((first | (with_reducible first | refine g_k true true hD rfl ?_ | refine g_ret hD ?_ | refine g_end hD ?_) | ((with_reducible refine g_ct hD ?_ ?_); (focus exact rfl)) | ((with_reducible refine g_cf hD ?_ ?_); (focus exact rfl))); intro _ h₁; replace hF := rl hF h₁; clear h₁) | ((with_reducible refine g_reg hD (fun _ h₁ => ?_)); replace hF := rl hF h₁; clear h₁; simp only [regN]) | ((with_reducible refine g_exit hD (k' := ?_) ?_ (fun _ h₁ => ?_)); rotate_left; (focus exact rfl); replace hF := rl hF h₁; clear h₁))
  exact Goes.stop fun w₃ h₃ => hgo.out _ _ (rl hF h₃) rfl rfl rfl rfl rfl rfl rfl

end
end Go.Proofs.Ytblpmdolclalnaa

namespace Go.Proofs.Ytblpmdolclalnaa
open Go.Conc
/-- The numbers below m. -/
def below (m : Nat) : List Int := (List.range m).map Int.ofNat
section
variable {Shun : Nat → Prop} {w : World} {cs : List Frame} {k em bm m0 N0 : Nat} {b0 : Int} {Q : (Nat → Prop) → Goroutine → World → Prop}
theorem oa_loop (hk : k ≤ 16) (hgo : ∀ kes vf T w₁, kes.length = k → OF Shun w em bm k kes vf w₁ → T.size = 103 → T[0]? = some (.int .u8 b0) → T[5]? = some (.int .i64 k) → T[6]? = some (ptr em) → T[7]? = some (vf) → T[21]? = some (.int .i64 k) → T[22]? = some (.int .i64 k) → Lone Try.prog N0 Q Shun (G ((base 5).at ⟨T, []⟩ [.code lp5a, .inLoop lp5a, .inBlock 0, .code (tl5 5)]) cs) w₁) :
    ∀ (m i : Nat) (kes : List Nat) (vf : Value) (T : Array Value) (w₁ : World), i + m = k → kes.length = i → OF Shun w em bm k kes vf w₁ → T.size = 103 → T[0]? = some (.int .u8 b0) → T[5]? = some (.int .i64 k) → T[6]? = some (ptr em) → T[7]? = some (vf) → T[21]? = some (.int .i64 k) → T[22]? = some (.int .i64 i) → Lone Try.prog N0 Q Shun (G ((base 5).at ⟨T, []⟩ [.code lp5a, .inLoop lp5a, .inBlock 0, .code (tl5 5)]) cs) w₁ := by
  intro m
  induction m with
  | zero =>
    intro i kes vf T w₁ hi hl hF hs t0 t5 t6 t7 t21 t22
    obtain rfl : i = k := by omega
    exact hgo kes vf T w₁ hl hF hs t0 t5 t6 t7 t21 t22
  | succ m ih =>
    intro i kes vf T w₁ hi hl hF hs t0 t5 t6 t7 t21 t22
    exact Lone.on (n := 80) (oa_round (by omega) hk hl hs t0 t5 t6 t7 t21 t22 hF fun T ei vf' w₂ hF hs t0 t5 t6 t7 t21 t22 _ => ih (i + 1) (kes ++ [ei]) vf' T w₂ (by omega) (by simp [hl]) hF hs t0 t5 t6 t7 t21 t22)
theorem ob_loop {kes : List Nat} {vf : Value} (hm : m0 ≤ 256) (hgo : ∀ v9 T w₁, OL Shun w em bm k kes vf (below m0) v9 w₁ → T.size = 103 → T[5]? = some (.int .i64 k) → T[6]? = some (ptr em) → T[7]? = some (vf) → T[9]? = some (v9) → T[31]? = some (.int .i64 m0) → T[32]? = some (.int .i64 m0) → Lone Try.prog N0 Q Shun (G ((base 5).at ⟨T, []⟩ [.code lp5b, .inLoop lp5b, .inBlock 2, .code (tl5 7)]) cs) w₁) :
    ∀ (m i : Nat) (v9 : Value) (T : Array Value) (w₁ : World), i + m = m0 → OL Shun w em bm k kes vf (below i) v9 w₁ → T.size = 103 → T[5]? = some (.int .i64 k) → T[6]? = some (ptr em) → T[7]? = some (vf) → T[9]? = some (v9) → T[31]? = some (.int .i64 m0) → T[32]? = some (.int .i64 i) → Lone Try.prog N0 Q Shun (G ((base 5).at ⟨T, []⟩ [.code lp5b, .inLoop lp5b, .inBlock 2, .code (tl5 7)]) cs) w₁ := by
  intro m
  induction m with
  | zero =>
    intro i v9 T w₁ hi hF hs t5 t6 t7 t9 t31 t32
    obtain rfl : i = m0 := by omega
    exact hgo v9 T w₁ hF hs t5 t6 t7 t9 t31 t32
  | succ m ih =>
    intro i v9 T w₁ hi hF hs t5 t6 t7 t9 t31 t32
    refine Lone.on (n := 80) (ob_round (by omega) hm (by simp [below]) hs t5 t6 t7 t9 t31 t32 hF fun T v9' w₂ hF hs t5 t6 t7 t9 t31 t32 _ => ih (i + 1) v9' T w₂ (by omega) ?_ hs t5 t6 t7 t9 t31 t32)
    have e : below (i + 1) = below i ++ [(i : Int)] := by simp [below, List.range_succ]
    rw [e]
    exact hF
end
end Go.Proofs.Ytblpmdolclalnaa

namespace Go.Proofs.Ytblpmdolclalnaa
open Go.Conc Go.RowKit Go.Conc.Lib Go.ConcR.Gen Go.ConcN.Gen
section
variable {Shun : Nat → Prop} {w : World} {b₀ : Frame} {a₀ : Act} {ops₀ : Array Oper} {i₀ : Nat} {rest₀ : List Nat} {k₀ : List Item} {cs : List Frame}
set_option maxRecDepth 100000 in
set_option maxHeartbeats 4000000 in
theorem fn13n {fa : Option Addr} {n cap : Nat} (h66 : S66 Shun w) : Lone Try.prog w.heap.size (fun S g w' => Keep Shun w S w' ∧ ∃ kb, w.heap.size ≤ kb ∧ Cel S kb (.slice fa n cap) w' ∧ g = G (b₀.at (a₀.put ((ops₀[i₀]?).bind (·.dst)) (seqV kb)) (.inRegion ops₀ rest₀ :: k₀)) cs) Shun (G ((base 13).at ⟨#[.slice fa n cap, undef, undef, undef], []⟩ [.code body13]) (b₀.at a₀ (.inRegion ops₀ (i₀ :: rest₀) :: k₀) :: cs)) w := by
  have hD : ∀ w, SD Shun w w #[] := sd_idle
  have hF : AtRel w w := ⟨w.drawn, rfl⟩
  have rl : ∀ {w₁ w₂ : World}, AtRel w w₁ → AtRel w₁ w₂ → AtRel w w₂ := fun h r => AtRel.steady.rel h r
  refine Lone.goes (n := 30) ?_
  generalize hw : w = w₀ at hF ⊢
  rw [← hw] at hF ⊢
  simp only [body13, Try.f13, Option.getD_some]
  repeat ((first | ((first | (with_reducible first | refine g_k true true hD rfl ?_ | refine g_ret hD ?_ | refine g_end hD ?_) | ((with_reducible refine g_ct hD ?_ ?_); (focus exact rfl)) | ((with_reducible refine g_cf hD ?_ ?_); (focus exact rfl))); intro _ h₁; replace hF := rl hF h₁; clear h₁) | ((with_reducible refine g_reg hD (fun _ h₁ => ?_)); replace hF := rl hF h₁; clear h₁; simp only [regN]) | ((with_reducible refine g_exit hD (k' := ?_) ?_ (fun _ h₁ => ?_)); rotate_left; (focus exact rfl); replace hF := rl hF h₁; clear h₁)))
  refine Goes.step rfl fun w₁ h₁ => ?_
  replace hF := rl hF h₁
  clear h₁
  refine goes_oper_k rfl rfl (by decide) (fun K hK => ?_)
  go_simp
  refine hK _ _ ⟨sd_new (by simp) (fun e he => ?_), ?_⟩
  · have hm := mem_listed he
    simp [go_sem] at hm
  clear hK K
  have hge : w.heap.size ≤ w₁.heap.size := by obtain ⟨d, rfl⟩ := hF; exact Nat.le_refl _
  replace hF := keep_box (v := .slice fa n cap) (t := 22) h66 hF
  clear rl
  generalize w₁.alloc (.cells #[.slice fa n cap] 22) = w₂ at hF ⊢
  generalize w₁.heap.size = kb at hF hge ⊢
  clear w₁
  have rl : ∀ {w₁ w₂ : World}, (Keep Shun w Shun w₁ ∧ Cel Shun kb (.slice fa n cap) w₁) → AtRel w₁ w₂ → (Keep Shun w Shun w₂ ∧ Cel Shun kb (.slice fa n cap) w₂) := fun h r => by obtain ⟨d, rfl⟩ := r; exact ⟨h.1.at d, h.2⟩
  try walk_nrm
  repeat ((first | ((with_reducible refine g_opG ?_); (first | (refine g_unw hD rfl rfl (fun _ h₁ => ?_); replace hF := rl hF h₁; clear h₁; walk_nrm) | (refine Goes.step rfl (fun _ h₁ => ?_); replace hF := rl hF h₁; clear h₁; refine goes_oper_k rfl rfl (by k_ne) (fun K hK => ?_); go_simp; refine hK _ _ ⟨?_, ?_⟩; (focus (refine g_idle hD ?_; intro e he; have hm := mem_listed he; simp [go_sem, *] at hm; done)); clear hK K; try w_num))) | ((first | (with_reducible first | refine g_k true true hD rfl ?_ | refine g_ret hD ?_ | refine g_end hD ?_) | ((with_reducible refine g_ct hD ?_ ?_); (focus exact rfl)) | ((with_reducible refine g_cf hD ?_ ?_); (focus exact rfl))); intro _ h₁; replace hF := rl hF h₁; clear h₁) | ((with_reducible refine g_reg hD (fun _ h₁ => ?_)); replace hF := rl hF h₁; clear h₁; simp only [regN]) | ((with_reducible refine g_exit hD (k' := ?_) ?_ (fun _ h₁ => ?_)); rotate_left; (focus exact rfl); replace hF := rl hF h₁; clear h₁)))
  refine Goes.step rfl fun w₃ h₃ => ?_
  replace hF := rl hF h₃
  clear h₃
  refine goes_leave1 rfl rfl Try.func13 rfl ⟨sd_idle _, ?_⟩
  exact Goes.stop fun w₄ h₄ => (let hF' := rl hF h₄; ⟨hF'.1, kb, hge, hF'.2, rfl⟩)
end
end Go.Proofs.Ytblpmdolclalnaa

namespace Go.Proofs.Ytblpmdolclalnaa
open Go.Conc
section
variable {Shun S : Nat → Prop} {w w₁ w₂ : World} {k em bm kl n9 cap nf capf : Nat} {kes : List Nat} {ns : List Int} {fa ff : Option Addr}
/-- A block of cells that is no group's stands. -/
theorem Keep.cells (h66 : S66 Shun w) (h : Keep Shun w S w₁) {b : Nat} {cs : Array Value} {t : TypeId} (hb : w.heap[b]? = some (.cells cs t (0, 0))) (ht : t ≠ 66) : w₁.heap[b]? = w.heap[b]? ∧ ¬ S b := by
  have hn : ¬ Shun b := fun hs => by
    obtain ⟨c', hc'⟩ := h66 b hs
    rw [hb] at hc'
    simp only [Option.some.injEq, Obj.cells.injEq] at hc'
    exact ht hc'.2.1
  have hl := (Array.getElem?_eq_some_iff.1 hb).1
  exact ⟨h.out.blk b hl fun _ hs => hn hs, h.old hl hn⟩
theorem OL.ordIn (h : OL Shun w em bm k kes (.slice ff nf capf) ns (.slice fa n9 cap) w₁) (hk : kes.length = k) (hk16 : k ≤ 16) (hn : ns.length ≤ 900000) (hne : n9 = ns.length) (h2 : Keep Shun w₁ S w₂) (hkl : w₁.heap.size ≤ kl) (hc : Cel S kl (.slice fa n9 cap) w₂) :
    nf = k ∧ OrdIn S w₂ kl k em bm (fun s => kes.getD s 0) ns fa ff cap capf := by
  have h66 := h.f.b.keep.s66
  have hnf : nf = k := by
    rcases h.f.row.2 with ⟨e, h0⟩ | ⟨_, _, _, e, _⟩
    · cases e; omega
    · cases e; exact hk
  subst hnf hne
  obtain ⟨ce, hce⟩ := h.f.b.ec
  have e1 := h2.cells h66 hce (by decide)
  have e2 := h2.cells h66 h.f.b.bc (by decide)
  have hls := (Ls.row (hk ▸ h.f.row) (by decide) h66).keep h2
  refine ⟨rfl, hk16, hn, (cell?_eq e1.1 0).trans h.f.b.me, ⟨ce, e1.1.trans hce⟩, e1.2, ⟨_, e2.1.trans h.f.b.bc⟩, e2.2, fun s hs => ?_, fun s hs => ?_, fun s hs => ?_, ⟨hc, fun e => ?_⟩, (Ls.row h.row (by decide) h66).keep h2, fun bl o sp e hb => ?_⟩
  · have hx : kes[s]? = some (kes.getD s 0) := by simp [List.getD, hk, hs]
    obtain ⟨h3, _, ci, h5⟩ := h.f.box s _ hx
    have e3 := h2.cells h66 h5 (by decide)
    exact ⟨(cell?_eq e3.1 0).trans h3, e3.2, ci, e3.1.trans h5⟩
  · rw [cell?_eq e2.1 s]
    simp [World.cell?, h.f.b.bc, hs]
  · have hx : (kes.map (stV em))[s]? = some (stV em (kes.getD s 0)) := by simp [List.getD, hk, hs]
    obtain ⟨bl, o, h3, h4, h5⟩ := hls s _ hx
    refine ⟨bl, o, h3, h4, fun e => ?_, h5⟩
    obtain ⟨c, hc⟩ := row_tp h.f.row (g := bl) (by rw [h3]; rfl)
    rw [e, h.f.b.bc] at hc
    simp only [Option.some.injEq, Obj.cells.injEq] at hc
    exact absurd hc.2.1 (by decide)
  · have := (Array.getElem?_eq_some_iff.1 h.f.b.bc).1
    omega
  · obtain ⟨c, hc⟩ := row_tp h.row (g := bl) (by rw [e]; rfl)
    rw [hb, h.f.b.bc] at hc
    simp only [Option.some.injEq, Obj.cells.injEq] at hc
    exact absurd hc.2.1 (by decide)
end
/-- What the call left: each stage has met its list. -/
structure OD (Shun : Nat → Prop) (w : World) (S : Nat → Prop) (em bm k : Nat) (kei : Nat → Nat) (ns : List Int) (v : Value) (w₁ : World) : Prop where
  keep : Keep Shun w S w₁
  ox : ∀ s, s < k → ∃ own, OX own em (kei s) bm s k (ints (ns.map (metI s))) w₁
  got : Got w₁ v (ns.map (metI k))
/-- .. and of stage s: its row. -/
structure OT (Shun : Nat → Prop) (w : World) (S : Nat → Prop) (em bm k : Nat) (kei : Nat → Nat) (ns : List Int) (v : Value) (s : Nat) (fr : Option Addr) (cr : Nat) (w₁ : World) : Prop where
  od : OD Shun w S em bm k kei ns v w₁
  me : w₁.cell? ⟨em, 0, none⟩ = some (.slice (some ⟨bm, 0, none⟩) k k)
  se : ¬ S em
  cell : w₁.cell? ⟨bm, s, none⟩ = some (.slice fr ns.length cr)
  sb : ¬ S bm
  ls : Ls S fr (ints (ns.map (metI s))) w₁
section
variable {Shun S : Nat → Prop} {w w₁ w₂ : World} {k em bm s cr : Nat} {kei : Nat → Nat} {ns : List Int} {v : Value} {fr : Option Addr}
theorem OD.steady : Steady (OD Shun w S em bm k kei ns v) := fun _ d h => ⟨h.keep.at d, fun s hs => (let ⟨own, a⟩ := h.ox s hs; ⟨own, a.me, a.ec, a.ix, a.ic, a.lt, a.bc, a.row, a.ints⟩), h.got⟩
theorem OT.steady : Steady (OT Shun w S em bm k kei ns v s fr cr) := fun w d h => ⟨OD.steady w d h.od, h.me, h.se, h.cell, h.sb, h.ls⟩
theorem no66 {b t : Nat} (h : S66 S w) (hb : ∃ cs : Array Value, w.heap[b]? = some (.cells cs t (0, 0))) (ht : t ≠ 66) : ¬ S b := fun hs => by
  obtain ⟨c', hc'⟩ := h b hs
  obtain ⟨c, hc⟩ := hb
  rw [hc] at hc'
  simp only [Option.some.injEq, Obj.cells.injEq] at hc'
  exact ht hc'.2.1
theorem OD.stage (h : OD Shun w S em bm k kei ns v w₁) (hs : s < k) : ∃ fr cr, OT Shun w S em bm k kei ns v s fr cr w₁ := by
  obtain ⟨own, a⟩ := h.ox s hs
  obtain ⟨r, h1, h2, _⟩ := a.row
  have e : (ints (ns.map (metI s))).length = (ns.map (metI s)).length := by simp [ints]
  rw [e] at h2
  obtain ⟨fr, cr, rfl, h3⟩ := got_of h2
  rw [List.length_map] at h1
  exact ⟨fr, cr, h, a.me, no66 h.keep.s66 a.ec (by decide), h1, no66 h.keep.s66 a.bc (by decide), Ls.row h3 (by decide) h.keep.s66⟩
theorem metI_at (s : Nat) (j : Int) (hs : s ≤ 16) (hj : 0 ≤ j ∧ j < 1000) : metI s j = j + 1000 * s := by
  have : ∀ s, s ≤ 16 → metI s j = j + 1000 * (s : Nat) := by
    intro s
    induction s with
    | zero => intro _; simp [metI, compI]
    | succ s ih =>
      intro h
      have e : metI (s + 1) j = addK (metI s j) := by simp [metI, compI]
      rw [e, ih (by omega)]
      unfold addK
      rw [IntKind.wrap_i64]
      omega
  exact this s hs
theorem below_at {m j : Nat} (h : j < m) : (below m)[j]? = some (j : Int) := by simp [below, h]
theorem below_len (m : Nat) : (below m).length = m := by simp [below]
end
end Go.Proofs.Ytblpmdolclalnaa

namespace Go.Proofs.Ytblpmdolclalnaa
open Go.Conc Go.RowKit Go.Conc.Lib Go.ConcR.Gen Go.ConcN.Gen
noncomputable def blk5 : Code := cI (cF (cS (cS lp5c)))
noncomputable def lp5d : Code := cI (cI (cS (cS (cS blk5))))
noncomputable def lp5e : Code := cI (cI (cS (cF (tl5 10))))
noncomputable def ops36 : Array Oper := cO (cF (tl5 11))
section
variable {Shun S : Nat → Prop} {w w₁ : World} {cs : List Frame} {k em bm s j c9 cr c1 m : Nat} {kei : Nat → Nat} {v11 : Value} {f9 f1 fr : Option Addr}
set_option maxRecDepth 100000 in
set_option maxHeartbeats 8000000 in
theorem rc1 {Stop : Goroutine → World → Prop} (hsk : s < k) (_hk : k ≤ 16) (_hm : m ≤ 256) {T : Array Value} (hs : T.size = 103) (t5 : T[5]? = some (.int .i64 k)) (t6 : T[6]? = some (ptr em)) (t9 : T[9]? = some (.slice f9 m c9)) (t11 : T[11]? = some (.slice f1 m c1)) (t56 : T[56]? = some (.int .i64 k)) (t57 : T[57]? = some (.int .i64 s)) (hF : OT Shun w S em bm k kei (below m) v11 s fr cr w₁)
    (hgo : ∀ T w₁, OT Shun w S em bm k kei (below m) v11 s fr cr w₁ → T.size = 103 → T[5]? = some (.int .i64 k) → T[6]? = some (ptr em) → T[9]? = some (.slice f9 m c9) → T[11]? = some (.slice f1 m c1) → T[56]? = some (.int .i64 k) → T[57]? = some (.int .i64 s) → T[13]? = some (.int .i64 s) → T[69]? = some (.int .i64 m) → T[70]? = some (.int .i64 (0 : Nat)) → Stop (G ((base 5).at ⟨T, []⟩ [.code lp5d, .inLoop lp5d, .inBlock 6, .inBlock 5, .code (cS (cS (cS lp5c))), .inLoop lp5c, .inBlock 4, .code (tl5 10)]) cs) w₁) :
    Goes Try.prog true AtRel (SD S) Stop 80 (G ((base 5).at ⟨T, []⟩ [.code lp5c, .inLoop lp5c, .inBlock 4, .code (tl5 10)]) cs) w₁ := by
  have hD : ∀ w, SD S w w #[] := sd_idle
  have rl : ∀ {w₁ w₂ : World}, OT Shun w S em bm k kei (below m) v11 s fr cr w₁ → AtRel w₁ w₂ → OT Shun w S em bm k kei (below m) v11 s fr cr w₂ := fun h r => OT.steady.rel h r
  obtain ⟨v, rfl⟩ := array103 T hs
  simp only [List.getElem?_toArray, List.getElem?_cons_zero, List.getElem?_cons_succ, Option.some.injEq] at t5 t6 t9 t11 t56 t57
  rw [t5, t6, t9, t11, t56, t57]
  clear hs
  have hlt : decide ((s : Int) < (k : Int)) = true := decide_eq_true (by omega)
  have hlt' : decide (s < k) = true := decide_eq_true hsk
  have ia : (0 : Int) ≤ (s : Int) ∧ (s : Int) < (k : Int) := by omega
  have cl : ∀ w₁, OT Shun w S em bm k kei (below m) v11 s fr cr w₁ → w₁.cell? ⟨bm, s, none⟩ = some (.slice fr m cr) := fun w₁ h => (by have := h.cell; rw [below_len] at this; exact this)
  replace hgo := Hd.mk hgo
  simp only [tl5, body5, lp5c, lp5d, blk5, cS, cF, cI, Try.f5, Option.getD_some] at hgo ⊢
  repeat ((first | ((with_reducible refine g_opG ?_); (first | (refine g_unw hD rfl rfl (fun _ h₁ => ?_); replace hF := rl hF h₁; clear h₁; walk_nrm) | (refine Goes.step rfl (fun _ h₁ => ?_); replace hF := rl hF h₁; clear h₁; refine goes_oper_k rfl rfl (by k_ne) (fun K hK => ?_); go_simp; refine hK _ _ ⟨?_, ?_⟩; (focus (refine g_idle hD ?_; intro e he; have hm := mem_listed he; simp [go_sem, *] at hm; done)); clear hK K; try w_num))) | ((first | (with_reducible first | refine g_k true true hD rfl ?_ | refine g_ret hD ?_ | refine g_end hD ?_) | ((with_reducible refine g_ct hD ?_ ?_); (focus exact rfl)) | ((with_reducible refine g_cf hD ?_ ?_); (focus exact rfl))); intro _ h₁; replace hF := rl hF h₁; clear h₁) | ((with_reducible refine g_reg hD (fun _ h₁ => ?_)); replace hF := rl hF h₁; clear h₁; simp only [regN]) | ((with_reducible refine g_exit hD (k' := ?_) ?_ (fun _ h₁ => ?_)); rotate_left; (focus exact rfl); replace hF := rl hF h₁; clear h₁)))
  refine Goes.step rfl fun w₂ h₂ => ?_
  replace hF := rl hF h₂
  clear h₂
  refine goes_oper_k rfl rfl (by decide) (fun K hK => ?_)
  have h1 := hF.me
  go_simp
  refine hK _ _ ⟨sd_read fun e he => ?_, ?_⟩
  · have hm := mem_listed he
    simp [go_sem, h1] at hm
    exact ⟨_, _, _, hm, hF.se, cell_lt h1⟩
  clear hK K h1
  try walk_nrm
  repeat ((first | ((with_reducible refine g_opG ?_); (first | (refine g_unw hD rfl rfl (fun _ h₁ => ?_); replace hF := rl hF h₁; clear h₁; walk_nrm) | (refine Goes.step rfl (fun _ h₁ => ?_); replace hF := rl hF h₁; clear h₁; refine goes_oper_k rfl rfl (by k_ne) (fun K hK => ?_); go_simp; refine hK _ _ ⟨?_, ?_⟩; (focus (refine g_idle hD ?_; intro e he; have hm := mem_listed he; simp [go_sem, *] at hm; done)); clear hK K; try w_num))) | ((first | (with_reducible first | refine g_k true true hD rfl ?_ | refine g_ret hD ?_ | refine g_end hD ?_) | ((with_reducible refine g_ct hD ?_ ?_); (focus exact rfl)) | ((with_reducible refine g_cf hD ?_ ?_); (focus exact rfl))); intro _ h₁; replace hF := rl hF h₁; clear h₁) | ((with_reducible refine g_reg hD (fun _ h₁ => ?_)); replace hF := rl hF h₁; clear h₁; simp only [regN]) | ((with_reducible refine g_exit hD (k' := ?_) ?_ (fun _ h₁ => ?_)); rotate_left; (focus exact rfl); replace hF := rl hF h₁; clear h₁)))
  refine Goes.step rfl fun w₂ h₂ => ?_
  replace hF := rl hF h₂
  clear h₂
  refine goes_oper_k rfl rfl (by decide) (fun K hK => ?_)
  have h1 := cl _ hF
  go_simp
  refine hK _ _ ⟨sd_read fun e he => ?_, ?_⟩
  · have hm := mem_listed he
    simp [go_sem, h1] at hm
    exact ⟨_, _, _, hm, hF.sb, cell_lt h1⟩
  clear hK K h1
  try walk_nrm
  repeat ((first | ((with_reducible refine g_opG ?_); (first | (refine g_unw hD rfl rfl (fun _ h₁ => ?_); replace hF := rl hF h₁; clear h₁; walk_nrm) | (refine Goes.step rfl (fun _ h₁ => ?_); replace hF := rl hF h₁; clear h₁; refine goes_oper_k rfl rfl (by k_ne) (fun K hK => ?_); go_simp; refine hK _ _ ⟨?_, ?_⟩; (focus (refine g_idle hD ?_; intro e he; have hm := mem_listed he; simp [go_sem, *] at hm; done)); clear hK K; try w_num))) | ((first | (with_reducible first | refine g_k true false hD rfl ?_ | refine g_ret hD ?_ | refine g_end hD ?_) | ((with_reducible refine g_ct hD ?_ ?_); (focus exact rfl)) | ((with_reducible refine g_cf hD ?_ ?_); (focus exact rfl))); intro _ h₁; replace hF := rl hF h₁; clear h₁) | ((with_reducible refine g_reg hD (fun _ h₁ => ?_)); replace hF := rl hF h₁; clear h₁; simp only [regN]) | ((with_reducible refine g_exit hD (k' := ?_) ?_ (fun _ h₁ => ?_)); rotate_left; (focus exact rfl); replace hF := rl hF h₁; clear h₁)))
  (first | ((with_reducible refine g_opG ?_); (first | (refine g_unw hD rfl rfl (fun _ h₁ => ?_); replace hF := rl hF h₁; clear h₁; walk_nrm) | (refine Goes.step rfl (fun _ h₁ => ?_); replace hF := rl hF h₁; clear h₁; refine goes_oper_k rfl rfl (by k_ne) (fun K hK => ?_); go_simp; refine hK _ _ ⟨?_, ?_⟩; (focus (refine g_idle hD ?_; intro e he; have hm := mem_listed he; simp [go_sem, *] at hm; done)); clear hK K; try w_num))) | ((first | (with_reducible first | refine g_k true true hD rfl ?_ | refine g_ret hD ?_ | refine g_end hD ?_) | ((with_reducible refine g_ct hD ?_ ?_); (focus exact rfl)) | ((with_reducible refine g_cf hD ?_ ?_); (focus exact rfl))); intro _ h₁; replace hF := rl hF h₁; clear h₁) | ((with_reducible refine g_reg hD (fun _ h₁ => ?_)); replace hF := rl hF h₁; clear h₁; simp only [regN]) | ((with_reducible refine g_exit hD (k' := ?_) ?_ (fun _ h₁ => ?_)); rotate_left; (focus exact rfl); replace hF := rl hF h₁; clear h₁))
  exact Goes.stop fun w₃ h₃ => hgo.out _ _ (rl hF h₃) rfl rfl rfl rfl rfl rfl rfl rfl rfl rfl

set_option maxRecDepth 100000 in
set_option maxHeartbeats 8000000 in
theorem rd1 {Stop : Goroutine → World → Prop} (hsk : s < k) (hk : k ≤ 16) (hm : m ≤ 256) (hj : j < m) {T : Array Value} (hs : T.size = 103) (t5 : T[5]? = some (.int .i64 k)) (t6 : T[6]? = some (ptr em)) (t9 : T[9]? = some (.slice f9 m c9)) (t11 : T[11]? = some (.slice f1 m c1)) (t56 : T[56]? = some (.int .i64 k)) (t57 : T[57]? = some (.int .i64 s)) (t13 : T[13]? = some (.int .i64 s)) (t69 : T[69]? = some (.int .i64 m)) (t70 : T[70]? = some (.int .i64 j)) (hF : OT Shun w S em bm k kei (below m) v11 s fr cr w₁)
    (hgo : ∀ T w₁, OT Shun w S em bm k kei (below m) v11 s fr cr w₁ → T.size = 103 → T[5]? = some (.int .i64 k) → T[6]? = some (ptr em) → T[9]? = some (.slice f9 m c9) → T[11]? = some (.slice f1 m c1) → T[56]? = some (.int .i64 k) → T[57]? = some (.int .i64 s) → T[13]? = some (.int .i64 s) → T[69]? = some (.int .i64 m) → T[70]? = some (.int .i64 (j + 1 : Nat)) → Stop (G ((base 5).at ⟨T, []⟩ [.code lp5d, .inLoop lp5d, .inBlock 6, .inBlock 5, .code (cS (cS (cS lp5c))), .inLoop lp5c, .inBlock 4, .code (tl5 10)]) cs) w₁) :
    Goes Try.prog true AtRel (SD S) Stop 80 (G ((base 5).at ⟨T, []⟩ [.code lp5d, .inLoop lp5d, .inBlock 6, .inBlock 5, .code (cS (cS (cS lp5c))), .inLoop lp5c, .inBlock 4, .code (tl5 10)]) cs) w₁ := by
  have hD : ∀ w, SD S w w #[] := sd_idle
  have rl : ∀ {w₁ w₂ : World}, OT Shun w S em bm k kei (below m) v11 s fr cr w₁ → AtRel w₁ w₂ → OT Shun w S em bm k kei (below m) v11 s fr cr w₂ := fun h r => OT.steady.rel h r
  obtain ⟨v, rfl⟩ := array103 T hs
  simp only [List.getElem?_toArray, List.getElem?_cons_zero, List.getElem?_cons_succ, Option.some.injEq] at t5 t6 t9 t11 t56 t57 t13 t69 t70
  rw [t5, t6, t9, t11, t56, t57, t13, t69, t70]
  clear hs
  have hlt : decide ((j : Int) < (m : Int)) = true := decide_eq_true (by omega)
  have hlt' : decide (j < m) = true := decide_eq_true hj
  have ia : (0 : Int) ≤ (s : Int) ∧ (s : Int) < (k : Int) := by omega
  have ib : (0 : Int) ≤ (j : Int) ∧ (j : Int) < (m : Int) := by omega
  have hadd : IntKind.i64.wrap ((j : Int) + 1) = ((j + 1 : Nat) : Int) := by rw [IntKind.wrap_i64]; omega
  have hmul : IntKind.i64.wrap (1000 * (s : Int)) = 1000 * (s : Int) := by rw [IntKind.wrap_i64]; omega
  have hsum : IntKind.i64.wrap ((j : Int) + 1000 * (s : Int)) = (j : Int) + 1000 * (s : Int) := by rw [IntKind.wrap_i64]; omega
  obtain ⟨bl, o, rfl, hsl, hcl⟩ := hF.ls j (.int .i64 (metI s j)) (by simp [ints, below_at hj])
  rw [metI_at s j (by omega) (by omega)] at hcl
  have cl : ∀ w₁, OT Shun w S em bm k kei (below m) v11 s (some ⟨bl, o, none⟩) cr w₁ → w₁.cell? ⟨bm, s, none⟩ = some (.slice (some ⟨bl, o, none⟩) m cr) := fun w₁ h => (by have := h.cell; rw [below_len] at this; exact this)
  have ce : ∀ w₁, OT Shun w S em bm k kei (below m) v11 s (some ⟨bl, o, none⟩) cr w₁ → w₁.cell? ⟨bl, o + j, none⟩ = some (.int .i64 ((j : Int) + 1000 * (s : Int))) := fun w₁ h => (by
    obtain ⟨bl', o', e, _, h2⟩ := h.ls j (.int .i64 (metI s j)) (by simp [ints, below_at hj])
    cases e
    rw [metI_at s j (by omega) (by omega)] at h2
    exact h2)
  clear hcl
  replace hgo := Hd.mk hgo
  simp only [tl5, body5, lp5c, lp5d, blk5, cS, cF, cI, Try.f5, Option.getD_some] at hgo ⊢
  repeat ((first | ((with_reducible refine g_opG ?_); (first | (refine g_unw hD rfl rfl (fun _ h₁ => ?_); replace hF := rl hF h₁; clear h₁; walk_nrm) | (refine Goes.step rfl (fun _ h₁ => ?_); replace hF := rl hF h₁; clear h₁; refine goes_oper_k rfl rfl (by k_ne) (fun K hK => ?_); go_simp; refine hK _ _ ⟨?_, ?_⟩; (focus (refine g_idle hD ?_; intro e he; have hm := mem_listed he; simp [go_sem, *] at hm; done)); clear hK K; try w_num))) | ((first | (with_reducible first | refine g_k true true hD rfl ?_ | refine g_ret hD ?_ | refine g_end hD ?_) | ((with_reducible refine g_ct hD ?_ ?_); (focus exact rfl)) | ((with_reducible refine g_cf hD ?_ ?_); (focus exact rfl))); intro _ h₁; replace hF := rl hF h₁; clear h₁) | ((with_reducible refine g_reg hD (fun _ h₁ => ?_)); replace hF := rl hF h₁; clear h₁; simp only [regN]) | ((with_reducible refine g_exit hD (k' := ?_) ?_ (fun _ h₁ => ?_)); rotate_left; (focus exact rfl); replace hF := rl hF h₁; clear h₁)))
  refine Goes.step rfl fun w₂ h₂ => ?_
  replace hF := rl hF h₂
  clear h₂
  refine goes_oper_k rfl rfl (by decide) (fun K hK => ?_)
  have h1 := hF.me
  go_simp
  refine hK _ _ ⟨sd_read fun e he => ?_, ?_⟩
  · have hm := mem_listed he
    simp [go_sem, h1] at hm
    exact ⟨_, _, _, hm, hF.se, cell_lt h1⟩
  clear hK K h1
  try walk_nrm
  repeat ((first | ((with_reducible refine g_opG ?_); (first | (refine g_unw hD rfl rfl (fun _ h₁ => ?_); replace hF := rl hF h₁; clear h₁; walk_nrm) | (refine Goes.step rfl (fun _ h₁ => ?_); replace hF := rl hF h₁; clear h₁; refine goes_oper_k rfl rfl (by k_ne) (fun K hK => ?_); go_simp; refine hK _ _ ⟨?_, ?_⟩; (focus (refine g_idle hD ?_; intro e he; have hm := mem_listed he; simp [go_sem, *] at hm; done)); clear hK K; try w_num))) | ((first | (with_reducible first | refine g_k true true hD rfl ?_ | refine g_ret hD ?_ | refine g_end hD ?_) | ((with_reducible refine g_ct hD ?_ ?_); (focus exact rfl)) | ((with_reducible refine g_cf hD ?_ ?_); (focus exact rfl))); intro _ h₁; replace hF := rl hF h₁; clear h₁) | ((with_reducible refine g_reg hD (fun _ h₁ => ?_)); replace hF := rl hF h₁; clear h₁; simp only [regN]) | ((with_reducible refine g_exit hD (k' := ?_) ?_ (fun _ h₁ => ?_)); rotate_left; (focus exact rfl); replace hF := rl hF h₁; clear h₁)))
  refine Goes.step rfl fun w₂ h₂ => ?_
  replace hF := rl hF h₂
  clear h₂
  refine goes_oper_k rfl rfl (by decide) (fun K hK => ?_)
  have h1 := cl _ hF
  go_simp
  refine hK _ _ ⟨sd_read fun e he => ?_, ?_⟩
  · have hm := mem_listed he
    simp [go_sem, h1] at hm
    exact ⟨_, _, _, hm, hF.sb, cell_lt h1⟩
  clear hK K h1
  try walk_nrm
  repeat ((first | ((with_reducible refine g_opG ?_); (first | (refine g_unw hD rfl rfl (fun _ h₁ => ?_); replace hF := rl hF h₁; clear h₁; walk_nrm) | (refine Goes.step rfl (fun _ h₁ => ?_); replace hF := rl hF h₁; clear h₁; refine goes_oper_k rfl rfl (by k_ne) (fun K hK => ?_); go_simp; refine hK _ _ ⟨?_, ?_⟩; (focus (refine g_idle hD ?_; intro e he; have hm := mem_listed he; simp [go_sem, *] at hm; done)); clear hK K; try w_num))) | ((first | (with_reducible first | refine g_k true true hD rfl ?_ | refine g_ret hD ?_ | refine g_end hD ?_) | ((with_reducible refine g_ct hD ?_ ?_); (focus exact rfl)) | ((with_reducible refine g_cf hD ?_ ?_); (focus exact rfl))); intro _ h₁; replace hF := rl hF h₁; clear h₁) | ((with_reducible refine g_reg hD (fun _ h₁ => ?_)); replace hF := rl hF h₁; clear h₁; simp only [regN]) | ((with_reducible refine g_exit hD (k' := ?_) ?_ (fun _ h₁ => ?_)); rotate_left; (focus exact rfl); replace hF := rl hF h₁; clear h₁)))
  refine Goes.step rfl fun w₂ h₂ => ?_
  replace hF := rl hF h₂
  clear h₂
  refine goes_oper_k rfl rfl (by decide) (fun K hK => ?_)
  have h1 := ce _ hF
  go_simp
  refine hK _ _ ⟨sd_read fun e he => ?_, ?_⟩
  · have hm := mem_listed he
    simp [go_sem, h1] at hm
    exact ⟨_, _, _, hm, hsl, cell_lt h1⟩
  clear hK K h1
  try walk_nrm
  repeat ((first | ((with_reducible refine g_opG ?_); (first | (refine g_unw hD rfl rfl (fun _ h₁ => ?_); replace hF := rl hF h₁; clear h₁; walk_nrm) | (refine Goes.step rfl (fun _ h₁ => ?_); replace hF := rl hF h₁; clear h₁; refine goes_oper_k rfl rfl (by k_ne) (fun K hK => ?_); go_simp; refine hK _ _ ⟨?_, ?_⟩; (focus (refine g_idle hD ?_; intro e he; have hm := mem_listed he; simp [go_sem, *] at hm; done)); clear hK K; try w_num))) | ((first | (with_reducible first | refine g_k false true hD rfl ?_ | refine g_ret hD ?_ | refine g_end hD ?_) | ((with_reducible refine g_ct hD ?_ ?_); (focus exact rfl)) | ((with_reducible refine g_cf hD ?_ ?_); (focus exact rfl))); intro _ h₁; replace hF := rl hF h₁; clear h₁) | ((with_reducible refine g_reg hD (fun _ h₁ => ?_)); replace hF := rl hF h₁; clear h₁; simp only [regN]) | ((with_reducible refine g_exit hD (k' := ?_) ?_ (fun _ h₁ => ?_)); rotate_left; (focus exact rfl); replace hF := rl hF h₁; clear h₁)))
  (first | ((with_reducible refine g_opG ?_); (first | (refine g_unw hD rfl rfl (fun _ h₁ => ?_); replace hF := rl hF h₁; clear h₁; walk_nrm) | (refine Goes.step rfl (fun _ h₁ => ?_); replace hF := rl hF h₁; clear h₁; refine goes_oper_k rfl rfl (by k_ne) (fun K hK => ?_); go_simp; refine hK _ _ ⟨?_, ?_⟩; (focus (refine g_idle hD ?_; intro e he; have hm := mem_listed he; simp [go_sem, *] at hm; done)); clear hK K; try w_num))) | ((first | (with_reducible first | refine g_k true true hD rfl ?_ | refine g_ret hD ?_ | refine g_end hD ?_) | ((with_reducible refine g_ct hD ?_ ?_); (focus exact rfl)) | ((with_reducible refine g_cf hD ?_ ?_); (focus exact rfl))); intro _ h₁; replace hF := rl hF h₁; clear h₁) | ((with_reducible refine g_reg hD (fun _ h₁ => ?_)); replace hF := rl hF h₁; clear h₁; simp only [regN]) | ((with_reducible refine g_exit hD (k' := ?_) ?_ (fun _ h₁ => ?_)); rotate_left; (focus exact rfl); replace hF := rl hF h₁; clear h₁))
  exact Goes.stop fun w₃ h₃ => hgo.out _ _ (rl hF h₃) rfl rfl rfl rfl rfl rfl rfl rfl rfl rfl

set_option maxRecDepth 100000 in
set_option maxHeartbeats 8000000 in
theorem rd2 {Stop : Goroutine → World → Prop} (hk : k ≤ 16) (hsk : s < k) (hj : j = m) {T : Array Value} (hs : T.size = 103) (t5 : T[5]? = some (.int .i64 k)) (t6 : T[6]? = some (ptr em)) (t9 : T[9]? = some (.slice f9 m c9)) (t11 : T[11]? = some (.slice f1 m c1)) (t56 : T[56]? = some (.int .i64 k)) (t57 : T[57]? = some (.int .i64 s)) (t13 : T[13]? = some (.int .i64 s)) (t69 : T[69]? = some (.int .i64 m)) (t70 : T[70]? = some (.int .i64 j)) (hF : OT Shun w S em bm k kei (below m) v11 s fr cr w₁)
    (hgo : ∀ T w₁, OT Shun w S em bm k kei (below m) v11 s fr cr w₁ → T.size = 103 → T[5]? = some (.int .i64 k) → T[6]? = some (ptr em) → T[9]? = some (.slice f9 m c9) → T[11]? = some (.slice f1 m c1) → T[56]? = some (.int .i64 k) → T[57]? = some (.int .i64 (s + 1 : Nat)) → Stop (G ((base 5).at ⟨T, []⟩ [.code lp5c, .inLoop lp5c, .inBlock 4, .code (tl5 10)]) cs) w₁) :
    Goes Try.prog true AtRel (SD S) Stop 80 (G ((base 5).at ⟨T, []⟩ [.code lp5d, .inLoop lp5d, .inBlock 6, .inBlock 5, .code (cS (cS (cS lp5c))), .inLoop lp5c, .inBlock 4, .code (tl5 10)]) cs) w₁ := by
  have hD : ∀ w, SD S w w #[] := sd_idle
  have rl : ∀ {w₁ w₂ : World}, OT Shun w S em bm k kei (below m) v11 s fr cr w₁ → AtRel w₁ w₂ → OT Shun w S em bm k kei (below m) v11 s fr cr w₂ := fun h r => OT.steady.rel h r
  obtain ⟨v, rfl⟩ := array103 T hs
  simp only [List.getElem?_toArray, List.getElem?_cons_zero, List.getElem?_cons_succ, Option.some.injEq] at t5 t6 t9 t11 t56 t57 t13 t69 t70
  rw [t5, t6, t9, t11, t56, t57, t13, t69, t70]
  clear hs
  subst hj
  have hlt : decide ((j : Int) < (j : Int)) = false := decide_eq_false (by omega)
  have hlt' : decide (j < j) = false := decide_eq_false (by omega)
  have hadd : IntKind.i64.wrap ((s : Int) + 1) = ((s + 1 : Nat) : Int) := by rw [IntKind.wrap_i64]; omega
  replace hgo := Hd.mk hgo
  simp only [tl5, body5, lp5c, lp5d, blk5, cS, cF, cI, Try.f5, Option.getD_some] at hgo ⊢
  repeat ((first | ((with_reducible refine g_opG ?_); (first | (refine g_unw hD rfl rfl (fun _ h₁ => ?_); replace hF := rl hF h₁; clear h₁; walk_nrm) | (refine Goes.step rfl (fun _ h₁ => ?_); replace hF := rl hF h₁; clear h₁; refine goes_oper_k rfl rfl (by k_ne) (fun K hK => ?_); go_simp; refine hK _ _ ⟨?_, ?_⟩; (focus (refine g_idle hD ?_; intro e he; have hm := mem_listed he; simp [go_sem, *] at hm; done)); clear hK K; try w_num))) | ((first | (with_reducible first | refine g_k false true hD rfl ?_ | refine g_ret hD ?_ | refine g_end hD ?_) | ((with_reducible refine g_ct hD ?_ ?_); (focus exact rfl)) | ((with_reducible refine g_cf hD ?_ ?_); (focus exact rfl))); intro _ h₁; replace hF := rl hF h₁; clear h₁) | ((with_reducible refine g_reg hD (fun _ h₁ => ?_)); replace hF := rl hF h₁; clear h₁; simp only [regN]) | ((with_reducible refine g_exit hD (k' := ?_) ?_ (fun _ h₁ => ?_)); rotate_left; (focus exact rfl); replace hF := rl hF h₁; clear h₁)))
  (first | ((with_reducible refine g_opG ?_); (first | (refine g_unw hD rfl rfl (fun _ h₁ => ?_); replace hF := rl hF h₁; clear h₁; walk_nrm) | (refine Goes.step rfl (fun _ h₁ => ?_); replace hF := rl hF h₁; clear h₁; refine goes_oper_k rfl rfl (by k_ne) (fun K hK => ?_); go_simp; refine hK _ _ ⟨?_, ?_⟩; (focus (refine g_idle hD ?_; intro e he; have hm := mem_listed he; simp [go_sem, *] at hm; done)); clear hK K; try w_num))) | ((first | (with_reducible first | refine g_k true true hD rfl ?_ | refine g_ret hD ?_ | refine g_end hD ?_) | ((with_reducible refine g_ct hD ?_ ?_); (focus exact rfl)) | ((with_reducible refine g_cf hD ?_ ?_); (focus exact rfl))); intro _ h₁; replace hF := rl hF h₁; clear h₁) | ((with_reducible refine g_reg hD (fun _ h₁ => ?_)); replace hF := rl hF h₁; clear h₁; simp only [regN]) | ((with_reducible refine g_exit hD (k' := ?_) ?_ (fun _ h₁ => ?_)); rotate_left; (focus exact rfl); replace hF := rl hF h₁; clear h₁))
  exact Goes.stop fun w₃ h₃ => hgo.out _ _ (rl hF h₃) rfl rfl rfl rfl rfl rfl rfl

set_option maxRecDepth 100000 in
set_option maxHeartbeats 8000000 in
theorem rc2 {Stop : Goroutine → World → Prop} (hj : s = k) {T : Array Value} (hs : T.size = 103) (t5 : T[5]? = some (.int .i64 k)) (t6 : T[6]? = some (ptr em)) (t9 : T[9]? = some (.slice f9 m c9)) (t11 : T[11]? = some (.slice f1 m c1)) (t56 : T[56]? = some (.int .i64 k)) (t57 : T[57]? = some (.int .i64 s)) (hF : OD Shun w S em bm k kei (below m) v11 w₁)
    (hgo : ∀ T w₁, OD Shun w S em bm k kei (below m) v11 w₁ → T.size = 103 → T[5]? = some (.int .i64 k) → T[11]? = some (.slice f1 m c1) → T[88]? = some (.int .i64 m) → T[89]? = some (.int .i64 (0 : Nat)) → Stop (G ((base 5).at ⟨T, []⟩ [.code lp5e, .inLoop lp5e, .inBlock 8, .code (tl5 11)]) cs) w₁) :
    Goes Try.prog true AtRel (SD S) Stop 80 (G ((base 5).at ⟨T, []⟩ [.code lp5c, .inLoop lp5c, .inBlock 4, .code (tl5 10)]) cs) w₁ := by
  have hD : ∀ w, SD S w w #[] := sd_idle
  have rl : ∀ {w₁ w₂ : World}, OD Shun w S em bm k kei (below m) v11 w₁ → AtRel w₁ w₂ → OD Shun w S em bm k kei (below m) v11 w₂ := fun h r => OD.steady.rel h r
  obtain ⟨v, rfl⟩ := array103 T hs
  simp only [List.getElem?_toArray, List.getElem?_cons_zero, List.getElem?_cons_succ, Option.some.injEq] at t5 t6 t9 t11 t56 t57
  rw [t5, t6, t9, t11, t56, t57]
  clear hs
  subst hj
  have hlt : decide ((s : Int) < (s : Int)) = false := decide_eq_false (by omega)
  have hlt' : decide (s < s) = false := decide_eq_false (by omega)
  replace hgo := Hd.mk hgo
  simp only [tl5, body5, lp5c, lp5e, cS, cF, cI, Try.f5, Option.getD_some] at hgo ⊢
  repeat ((first | ((with_reducible refine g_opG ?_); (first | (refine g_unw hD rfl rfl (fun _ h₁ => ?_); replace hF := rl hF h₁; clear h₁; walk_nrm) | (refine Goes.step rfl (fun _ h₁ => ?_); replace hF := rl hF h₁; clear h₁; refine goes_oper_k rfl rfl (by k_ne) (fun K hK => ?_); go_simp; refine hK _ _ ⟨?_, ?_⟩; (focus (refine g_idle hD ?_; intro e he; have hm := mem_listed he; simp [go_sem, *] at hm; done)); clear hK K; try w_num))) | ((first | (with_reducible first | refine g_k true false hD rfl ?_ | refine g_ret hD ?_ | refine g_end hD ?_) | ((with_reducible refine g_ct hD ?_ ?_); (focus exact rfl)) | ((with_reducible refine g_cf hD ?_ ?_); (focus exact rfl))); intro _ h₁; replace hF := rl hF h₁; clear h₁) | ((with_reducible refine g_reg hD (fun _ h₁ => ?_)); replace hF := rl hF h₁; clear h₁; simp only [regN]) | ((with_reducible refine g_exit hD (k' := ?_) ?_ (fun _ h₁ => ?_)); rotate_left; (focus exact rfl); replace hF := rl hF h₁; clear h₁)))
  (first | ((with_reducible refine g_opG ?_); (first | (refine g_unw hD rfl rfl (fun _ h₁ => ?_); replace hF := rl hF h₁; clear h₁; walk_nrm) | (refine Goes.step rfl (fun _ h₁ => ?_); replace hF := rl hF h₁; clear h₁; refine goes_oper_k rfl rfl (by k_ne) (fun K hK => ?_); go_simp; refine hK _ _ ⟨?_, ?_⟩; (focus (refine g_idle hD ?_; intro e he; have hm := mem_listed he; simp [go_sem, *] at hm; done)); clear hK K; try w_num))) | ((first | (with_reducible first | refine g_k true true hD rfl ?_ | refine g_ret hD ?_ | refine g_end hD ?_) | ((with_reducible refine g_ct hD ?_ ?_); (focus exact rfl)) | ((with_reducible refine g_cf hD ?_ ?_); (focus exact rfl))); intro _ h₁; replace hF := rl hF h₁; clear h₁) | ((with_reducible refine g_reg hD (fun _ h₁ => ?_)); replace hF := rl hF h₁; clear h₁; simp only [regN]) | ((with_reducible refine g_exit hD (k' := ?_) ?_ (fun _ h₁ => ?_)); rotate_left; (focus exact rfl); replace hF := rl hF h₁; clear h₁))
  exact Goes.stop fun w₃ h₃ => hgo.out _ _ (rl hF h₃) rfl rfl rfl rfl rfl

/-- What stands of the results. -/
structure OE (Shun : Nat → Prop) (w : World) (S : Nat → Prop) (f1 : Option Addr) (m k : Nat) (w₁ : World) : Prop where
  keep : Keep Shun w S w₁
  ls : Ls S f1 (ints ((below m).map (metI k))) w₁
theorem OE.steady : Steady (OE Shun w S f1 m k) := fun _ d h => ⟨h.keep.at d, h.ls⟩
set_option maxRecDepth 100000 in
set_option maxHeartbeats 8000000 in
theorem re1 {Stop : Goroutine → World → Prop} (hk : k ≤ 16) (hm : m ≤ 256) (hj : j < m) {T : Array Value} (hs : T.size = 103) (t5 : T[5]? = some (.int .i64 k)) (t11 : T[11]? = some (.slice f1 m c1)) (t88 : T[88]? = some (.int .i64 m)) (t89 : T[89]? = some (.int .i64 j)) (hF : OE Shun w S f1 m k w₁)
    (hgo : ∀ T w₁, OE Shun w S f1 m k w₁ → T.size = 103 → T[5]? = some (.int .i64 k) → T[11]? = some (.slice f1 m c1) → T[88]? = some (.int .i64 m) → T[89]? = some (.int .i64 (j + 1 : Nat)) → Stop (G ((base 5).at ⟨T, []⟩ [.code lp5e, .inLoop lp5e, .inBlock 8, .code (tl5 11)]) cs) w₁) :
    Goes Try.prog true AtRel (SD S) Stop 80 (G ((base 5).at ⟨T, []⟩ [.code lp5e, .inLoop lp5e, .inBlock 8, .code (tl5 11)]) cs) w₁ := by
  have hD : ∀ w, SD S w w #[] := sd_idle
  have rl : ∀ {w₁ w₂ : World}, OE Shun w S f1 m k w₁ → AtRel w₁ w₂ → OE Shun w S f1 m k w₂ := fun h r => OE.steady.rel h r
  obtain ⟨v, rfl⟩ := array103 T hs
  simp only [List.getElem?_toArray, List.getElem?_cons_zero, List.getElem?_cons_succ, Option.some.injEq] at t5 t11 t88 t89
  rw [t5, t11, t88, t89]
  clear hs
  have hlt : decide ((j : Int) < (m : Int)) = true := decide_eq_true (by omega)
  have hlt' : decide (j < m) = true := decide_eq_true hj
  have ib : (0 : Int) ≤ (j : Int) ∧ (j : Int) < (m : Int) := by omega
  have hadd : IntKind.i64.wrap ((j : Int) + 1) = ((j + 1 : Nat) : Int) := by rw [IntKind.wrap_i64]; omega
  have hmul : IntKind.i64.wrap (1000 * (k : Int)) = 1000 * (k : Int) := by rw [IntKind.wrap_i64]; omega
  have hsum : IntKind.i64.wrap ((j : Int) + 1000 * (k : Int)) = (j : Int) + 1000 * (k : Int) := by rw [IntKind.wrap_i64]; omega
  obtain ⟨bl, o, rfl, hsl, hcl⟩ := hF.ls j (.int .i64 (metI k j)) (by simp [ints, below_at hj])
  have ce : ∀ w₁, OE Shun w S (some ⟨bl, o, none⟩) m k w₁ → w₁.cell? ⟨bl, o + j, none⟩ = some (.int .i64 ((j : Int) + 1000 * (k : Int))) := fun w₁ h => (by
    obtain ⟨bl', o', e, _, h2⟩ := h.ls j (.int .i64 (metI k j)) (by simp [ints, below_at hj])
    cases e
    rw [metI_at k j (by omega) (by omega)] at h2
    exact h2)
  clear hcl
  replace hgo := Hd.mk hgo
  simp only [tl5, body5, lp5e, cS, cF, cI, Try.f5, Option.getD_some] at hgo ⊢
  repeat ((first | ((with_reducible refine g_opG ?_); (first | (refine g_unw hD rfl rfl (fun _ h₁ => ?_); replace hF := rl hF h₁; clear h₁; walk_nrm) | (refine Goes.step rfl (fun _ h₁ => ?_); replace hF := rl hF h₁; clear h₁; refine goes_oper_k rfl rfl (by k_ne) (fun K hK => ?_); go_simp; refine hK _ _ ⟨?_, ?_⟩; (focus (refine g_idle hD ?_; intro e he; have hm := mem_listed he; simp [go_sem, *] at hm; done)); clear hK K; try w_num))) | ((first | (with_reducible first | refine g_k true true hD rfl ?_ | refine g_ret hD ?_ | refine g_end hD ?_) | ((with_reducible refine g_ct hD ?_ ?_); (focus exact rfl)) | ((with_reducible refine g_cf hD ?_ ?_); (focus exact rfl))); intro _ h₁; replace hF := rl hF h₁; clear h₁) | ((with_reducible refine g_reg hD (fun _ h₁ => ?_)); replace hF := rl hF h₁; clear h₁; simp only [regN]) | ((with_reducible refine g_exit hD (k' := ?_) ?_ (fun _ h₁ => ?_)); rotate_left; (focus exact rfl); replace hF := rl hF h₁; clear h₁)))
  refine Goes.step rfl fun w₂ h₂ => ?_
  replace hF := rl hF h₂
  clear h₂
  refine goes_oper_k rfl rfl (by decide) (fun K hK => ?_)
  have h1 := ce _ hF
  go_simp
  refine hK _ _ ⟨sd_read fun e he => ?_, ?_⟩
  · have hm := mem_listed he
    simp [go_sem, h1] at hm
    exact ⟨_, _, _, hm, hsl, cell_lt h1⟩
  clear hK K h1
  try walk_nrm
  repeat ((first | ((with_reducible refine g_opG ?_); (first | (refine g_unw hD rfl rfl (fun _ h₁ => ?_); replace hF := rl hF h₁; clear h₁; walk_nrm) | (refine Goes.step rfl (fun _ h₁ => ?_); replace hF := rl hF h₁; clear h₁; refine goes_oper_k rfl rfl (by k_ne) (fun K hK => ?_); go_simp; refine hK _ _ ⟨?_, ?_⟩; (focus (refine g_idle hD ?_; intro e he; have hm := mem_listed he; simp [go_sem, *] at hm; done)); clear hK K; try w_num))) | ((first | (with_reducible first | refine g_k false true hD rfl ?_ | refine g_ret hD ?_ | refine g_end hD ?_) | ((with_reducible refine g_ct hD ?_ ?_); (focus exact rfl)) | ((with_reducible refine g_cf hD ?_ ?_); (focus exact rfl))); intro _ h₁; replace hF := rl hF h₁; clear h₁) | ((with_reducible refine g_reg hD (fun _ h₁ => ?_)); replace hF := rl hF h₁; clear h₁; simp only [regN]) | ((with_reducible refine g_exit hD (k' := ?_) ?_ (fun _ h₁ => ?_)); rotate_left; (focus exact rfl); replace hF := rl hF h₁; clear h₁)))
  (first | ((with_reducible refine g_opG ?_); (first | (refine g_unw hD rfl rfl (fun _ h₁ => ?_); replace hF := rl hF h₁; clear h₁; walk_nrm) | (refine Goes.step rfl (fun _ h₁ => ?_); replace hF := rl hF h₁; clear h₁; refine goes_oper_k rfl rfl (by k_ne) (fun K hK => ?_); go_simp; refine hK _ _ ⟨?_, ?_⟩; (focus (refine g_idle hD ?_; intro e he; have hm := mem_listed he; simp [go_sem, *] at hm; done)); clear hK K; try w_num))) | ((first | (with_reducible first | refine g_k true true hD rfl ?_ | refine g_ret hD ?_ | refine g_end hD ?_) | ((with_reducible refine g_ct hD ?_ ?_); (focus exact rfl)) | ((with_reducible refine g_cf hD ?_ ?_); (focus exact rfl))); intro _ h₁; replace hF := rl hF h₁; clear h₁) | ((with_reducible refine g_reg hD (fun _ h₁ => ?_)); replace hF := rl hF h₁; clear h₁; simp only [regN]) | ((with_reducible refine g_exit hD (k' := ?_) ?_ (fun _ h₁ => ?_)); rotate_left; (focus exact rfl); replace hF := rl hF h₁; clear h₁))
  exact Goes.stop fun w₃ h₃ => hgo.out _ _ (rl hF h₃) rfl rfl rfl rfl rfl

set_option maxRecDepth 100000 in
set_option maxHeartbeats 8000000 in
theorem re2 {Stop : Goroutine → World → Prop} (hj : j = m) {T : Array Value} (hs : T.size = 103) (t5 : T[5]? = some (.int .i64 k)) (t11 : T[11]? = some (.slice f1 m c1)) (t88 : T[88]? = some (.int .i64 m)) (t89 : T[89]? = some (.int .i64 j)) (hF : OE Shun w S f1 m k w₁)
    (hgo : ∀ T w₁, OE Shun w S f1 m k w₁ → T.size = 103 → Stop (G ((base 10).at ⟨#[undef, undef, undef, undef, undef, undef, undef, undef, undef, undef, undef, undef, undef, undef, undef, undef, undef, undef, undef, undef, undef, undef, undef, undef, undef, undef, undef, undef, undef, undef, undef, undef, undef, undef, undef, undef, undef, undef, undef, undef, undef, undef, undef, undef, undef, undef, undef, undef, undef], []⟩ [.code body10]) ((base 5).at ⟨T, []⟩ (.inRegion ops36 [0, 1] :: [.code (cS (tl5 11))]) :: cs)) w₁) :
    Goes Try.prog true AtRel (SD S) Stop 80 (G ((base 5).at ⟨T, []⟩ [.code lp5e, .inLoop lp5e, .inBlock 8, .code (tl5 11)]) cs) w₁ := by
  have hD : ∀ w, SD S w w #[] := sd_idle
  have rl : ∀ {w₁ w₂ : World}, OE Shun w S f1 m k w₁ → AtRel w₁ w₂ → OE Shun w S f1 m k w₂ := fun h r => OE.steady.rel h r
  obtain ⟨v, rfl⟩ := array103 T hs
  simp only [List.getElem?_toArray, List.getElem?_cons_zero, List.getElem?_cons_succ, Option.some.injEq] at t5 t11 t88 t89
  rw [t5, t11, t88, t89]
  clear hs
  subst hj
  have hlt : decide ((j : Int) < (j : Int)) = false := decide_eq_false (by omega)
  have hlt' : decide (j < j) = false := decide_eq_false (by omega)
  replace hgo := Hd.mk hgo
  simp only [tl5, body5, cO, lp5e, ops36, body10, Try.f10, cS, cF, cI, Try.f5, Option.getD_some] at hgo ⊢
  repeat ((first | ((with_reducible refine g_opG ?_); (first | (refine g_unw hD rfl rfl (fun _ h₁ => ?_); replace hF := rl hF h₁; clear h₁; walk_nrm) | (refine Goes.step rfl (fun _ h₁ => ?_); replace hF := rl hF h₁; clear h₁; refine goes_oper_k rfl rfl (by k_ne) (fun K hK => ?_); go_simp; refine hK _ _ ⟨?_, ?_⟩; (focus (refine g_idle hD ?_; intro e he; have hm := mem_listed he; simp [go_sem, *] at hm; done)); clear hK K; try w_num))) | ((first | (with_reducible first | refine g_k true true hD rfl ?_ | refine g_ret hD ?_ | refine g_end hD ?_) | ((with_reducible refine g_ct hD ?_ ?_); (focus exact rfl)) | ((with_reducible refine g_cf hD ?_ ?_); (focus exact rfl))); intro _ h₁; replace hF := rl hF h₁; clear h₁) | ((with_reducible refine g_reg hD (fun _ h₁ => ?_)); replace hF := rl hF h₁; clear h₁; simp only [regN]) | ((with_reducible refine g_exit hD (k' := ?_) ?_ (fun _ h₁ => ?_)); rotate_left; (focus exact rfl); replace hF := rl hF h₁; clear h₁)))
  ((with_reducible refine g_opG ?_); refine Goes.step rfl (fun _ h₁ => ?_); replace hF := rl hF h₁; clear h₁; refine goes_call rfl rfl (by k_ne) rfl Try.func10 rfl rfl ⟨by exact (g_idle hD (fun e he => by simp at he)), ?_⟩; walk_nrmf Try.f10)
  exact Goes.stop fun w₃ h₃ => hgo.out _ _ (rl hF h₃) rfl

end
end Go.Proofs.Ytblpmdolclalnaa
