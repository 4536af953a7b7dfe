/- Goroutine 0 alone: the laws' function small, the reference's Equal. Made by gen_lab.py. Goroutine 0 alone: the reference's Equal. Made by gen_lac.py. Chain[int]: the calls that are refused: a nil iterator, too many functions, a nil function. Made by gen_cmn.py. -/
import Derived.Test.YtblpmdolclalnaaB18
import Derived.Test.YtblpmdolclalnaaB23
namespace Go.Proofs.Ytblpmdolclalnaa
open Go.Conc Go.RowKit Go.Conc.Lib Go.ConcR.Gen Go.ConcN.Gen

abbrev ints (ns : List Int) : List Value := ns.map (Value.int .i64)
theorem array25 (T : Array Value) (h : T.size = 25) : ∃ v0 v1 v2 v3 v4 v5 v6 v7 v8 v9 v10 v11 v12 v13 v14 v15 v16 v17 v18 v19 v20 v21 v22 v23 v24, T = #[v0, v1, v2, v3, v4, v5, v6, v7, v8, v9, v10, v11, v12, v13, v14, v15, v16, v17, v18, v19, v20, v21, v22, v23, v24] := by
  obtain ⟨l⟩ := T
  match l, h with
  | [v0, v1, v2, v3, v4, v5, v6, v7, v8, v9, v10, v11, v12, v13, v14, v15, v16, v17, v18, v19, v20, v21, v22, v23, v24], _ => exact ⟨v0, v1, v2, v3, v4, v5, v6, v7, v8, v9, v10, v11, v12, v13, v14, v15, v16, v17, v18, v19, v20, v21, v22, v23, v24, rfl⟩
theorem array26 (T : Array Value) (h : T.size = 26) : ∃ v0 v1 v2 v3 v4 v5 v6 v7 v8 v9 v10 v11 v12 v13 v14 v15 v16 v17 v18 v19 v20 v21 v22 v23 v24 v25, T = #[v0, v1, v2, v3, v4, v5, v6, v7, v8, v9, v10, v11, v12, v13, v14, v15, v16, v17, v18, v19, v20, v21, v22, v23, v24, v25] := by
  obtain ⟨l⟩ := T
  match l, h with
  | [v0, v1, v2, v3, v4, v5, v6, v7, v8, v9, v10, v11, v12, v13, v14, v15, v16, v17, v18, v19, v20, v21, v22, v23, v24, v25], _ => exact ⟨v0, v1, v2, v3, v4, v5, v6, v7, v8, v9, v10, v11, v12, v13, v14, v15, v16, v17, v18, v19, v20, v21, v22, v23, v24, v25, rfl⟩

/-! ### small -/
def inR (x : Int) : Bool := decide (-1048576 ≤ x) && decide (x ≤ 1048576)
def smallB (ns : List Int) : Bool := ns.all inR && decide (ns.length ≤ 300)
noncomputable def body9 : Code := Try.f9.body.getD .skip
noncomputable def lp9 : Code := cI (cI (cS (cF (cS body9))))
structure U9 (fa : Option Addr) (n cap i : Nat) (U : Array Value) : Prop where
  size : U.size = 25
  t0 : U[0]? = some (.slice fa n cap)
  t2 : U[2]? = some (.bool false)
  t3 : U[3]? = some (.int .i64 i)
section
variable {Shun : Nat → Prop} {w w₁ : World} {b₀ : Frame} {a₀ : Act} {ops₀ : Array Oper} {i₀ : Nat} {rest₀ : List Nat} {k₀ : List Item} {cs : List Frame} {fa : Option Addr} {cap i : Nat} {ns : List Int}
set_option maxRecDepth 100000 in
set_option maxHeartbeats 4000000 in
theorem sm_round {Stop : Goroutine → World → Prop} (hL : Ls Shun fa (ints ns) w) (hlen : ns.length < 9223372036854775808) {x : Int} (hx : ns[i]? = some x) {U : Array Value} (hU : U9 fa ns.length cap i U) (hF : AtRel w w₁)
    (hno : inR x = true → ∀ U w₁, AtRel w w₁ → U9 fa ns.length cap (i + 1) U → Stop (G ((base 9).at ⟨U, []⟩ [.code lp9, .inLoop lp9, .inBlock 0, .code (cS (cS body9))]) (b₀.at a₀ (.inRegion ops₀ (i₀ :: rest₀) :: k₀) :: cs)) w₁)
    (hyes : inR x = false → ∀ w₁, AtRel w w₁ → Stop (G (b₀.at (a₀.put ((ops₀[i₀]?).bind (·.dst)) (.bool false)) (.inRegion ops₀ rest₀ :: k₀)) cs) w₁) :
    Goes Try.prog true AtRel (SD Shun) Stop 60 (G ((base 9).at ⟨U, []⟩ [.code lp9, .inLoop lp9, .inBlock 0, .code (cS (cS body9))]) (b₀.at a₀ (.inRegion ops₀ (i₀ :: rest₀) :: k₀) :: cs)) w₁ := by
  have hD : ∀ w, SD Shun w w #[] := sd_idle
  have rl : ∀ {w₁ w₂ : World}, AtRel w w₁ → AtRel w₁ w₂ → AtRel w w₂ := fun h r => AtRel.steady.rel h r
  obtain ⟨hs, t0, t2, t3⟩ := hU
  obtain ⟨v0, v1, v2, v3, v4, v5, v6, v7, v8, v9, v10, v11, v12, v13, v14, v15, v16, v17, v18, v19, v20, v21, v22, v23, v24, rfl⟩ := array25 U hs
  simp only [List.getElem?_toArray, List.getElem?_cons_zero, List.getElem?_cons_succ, Option.some.injEq] at t0 t2 t3
  subst t0 t2 t3
  clear hs
  have hi : i < ns.length := (List.getElem?_eq_some_iff.1 hx).1
  have hlt : decide ((i : Int) < (ns.length : Int)) = true := decide_eq_true (by omega)
  have hadd : IntKind.i64.wrap ((i : Int) + 1) = ((i + 1 : Nat) : Int) := by rw [IntKind.wrap_i64]; omega
  obtain ⟨bl, o, rfl, hsb, hc⟩ := hL i (.int .i64 x) (by rw [List.getElem?_map, hx]; rfl)
  have hcell : ∀ w₁, AtRel w w₁ → w₁.cell? ⟨bl, o + i, none⟩ = some (.int .i64 x) := fun w₁ h => by obtain ⟨d, rfl⟩ := h; exact hc
  replace hlen := Hd.mk hlen
  replace hno := Hd.mk hno
  replace hyes := Hd.mk hyes
  replace hx := Hd.mk hx
  clear hL hc
  simp only [lp9, cS, cF, cI, body9, Try.f9, Option.getD_some] at hno ⊢
  repeat ((first | ((with_reducible refine g_opG ?_); (first | ((with_reducible refine g_unw hD (o := ?_) ?_ ?_ (fun _ h₁ => ?_)); rotate_left; (focus exact rfl); (focus exact rfl); replace hF := rl hF h₁; clear h₁; walk_nrm) | (refine Goes.step rfl (fun _ h₁ => ?_); replace hF := rl hF h₁; clear h₁; refine goes_oper_k rfl rfl (by k_ne) (fun K hK => ?_); go_simp; refine hK _ _ ⟨?_, ?_⟩; (focus (refine g_idle hD ?_; intro e he; have hm := mem_listed he; simp [go_sem, *] at hm; done)); clear hK K; try w_num))) | ((with_reducible first | refine g_regE hD ?_ | refine g_seq hD ?_ | refine g_skip hD ?_ | refine g_block hD ?_ | refine g_inBlock hD ?_ | refine g_inLoop hD ?_ | refine g_loop hD ?_ | refine g_ret hD ?_ | refine g_end hD ?_); intro _ h₁; replace hF := rl hF h₁; clear h₁) | ((with_reducible refine g_reg hD (fun _ h₁ => ?_)); replace hF := rl hF h₁; clear h₁; simp only [regN]) | ((with_reducible refine g_exit hD (k' := ?_) ?_ (fun _ h₁ => ?_)); rotate_left; (focus exact rfl); replace hF := rl hF h₁; clear h₁) | ((first | ((with_reducible refine g_ct hD ?_ ?_); (focus exact rfl)) | ((with_reducible refine g_cf hD ?_ ?_); (focus exact rfl))); intro _ h₁; replace hF := rl hF h₁; clear h₁)))
  refine Goes.step rfl fun w₂ h₂ => ?_
  replace hF := rl hF h₂
  clear h₂
  refine goes_oper_k rfl rfl (by decide) (fun K hK => ?_)
  have h1 := hcell _ hF
  go_simp
  refine hK _ _ ⟨sd_read fun e he => ?_, ?_⟩
  · have hm := mem_listed he
    simp [go_sem, h1] at hm
    exact ⟨_, _, _, hm, hsb, cell_lt h1⟩
  clear hK K h1
  try walk_nrm
  by_cases c1 : x < -1048576
  · have d1 : decide (x < -1048576) = true := decide_eq_true c1
    have hin : inR x = false := by simp only [inR, Bool.and_eq_false_iff, decide_eq_false_iff_not]; omega
    clear c1
    repeat ((first | ((with_reducible refine g_opG ?_); (first | ((with_reducible refine g_unw hD (o := ?_) ?_ ?_ (fun _ h₁ => ?_)); rotate_left; (focus exact rfl); (focus exact rfl); replace hF := rl hF h₁; clear h₁; walk_nrm) | (refine Goes.step rfl (fun _ h₁ => ?_); replace hF := rl hF h₁; clear h₁; refine goes_oper_k rfl rfl (by k_ne) (fun K hK => ?_); go_simp; refine hK _ _ ⟨?_, ?_⟩; (focus (refine g_idle hD ?_; intro e he; have hm := mem_listed he; simp [go_sem, *] at hm; done)); clear hK K; try w_num))) | ((with_reducible first | refine g_regE hD ?_ | refine g_seq hD ?_ | refine g_skip hD ?_ | refine g_block hD ?_ | refine g_inBlock hD ?_ | refine g_inLoop hD ?_ | refine g_loop hD ?_ | refine g_ret hD ?_ | refine g_end hD ?_); intro _ h₁; replace hF := rl hF h₁; clear h₁) | ((with_reducible refine g_reg hD (fun _ h₁ => ?_)); replace hF := rl hF h₁; clear h₁; simp only [regN]) | ((with_reducible refine g_exit hD (k' := ?_) ?_ (fun _ h₁ => ?_)); rotate_left; (focus exact rfl); replace hF := rl hF h₁; clear h₁) | ((first | ((with_reducible refine g_ct hD ?_ ?_); (focus exact rfl)) | ((with_reducible refine g_cf hD ?_ ?_); (focus exact rfl))); intro _ h₁; replace hF := rl hF h₁; clear h₁)))
    refine Goes.step rfl fun w₃ h₃ => ?_
    replace hF := rl hF h₃
    clear h₃
    refine goes_leave1 rfl rfl Try.func9 rfl ⟨sd_idle _, ?_⟩
    exact Goes.stop fun w₄ h₄ => hyes.out hin _ (rl hF h₄)
  · have d1 : decide (x < -1048576) = false := decide_eq_false c1
    repeat ((first | ((with_reducible refine g_opG ?_); (first | ((with_reducible refine g_unw hD (o := ?_) ?_ ?_ (fun _ h₁ => ?_)); rotate_left; (focus exact rfl); (focus exact rfl); replace hF := rl hF h₁; clear h₁; walk_nrm) | (refine Goes.step rfl (fun _ h₁ => ?_); replace hF := rl hF h₁; clear h₁; refine goes_oper_k rfl rfl (by k_ne) (fun K hK => ?_); go_simp; refine hK _ _ ⟨?_, ?_⟩; (focus (refine g_idle hD ?_; intro e he; have hm := mem_listed he; simp [go_sem, *] at hm; done)); clear hK K; try w_num))) | ((with_reducible first | refine g_regE hD ?_ | refine g_seq hD ?_ | refine g_skip hD ?_ | refine g_block hD ?_ | refine g_inBlock hD ?_ | refine g_inLoop hD ?_ | refine g_loop hD ?_ | refine g_ret hD ?_ | refine g_end hD ?_); intro _ h₁; replace hF := rl hF h₁; clear h₁) | ((with_reducible refine g_reg hD (fun _ h₁ => ?_)); replace hF := rl hF h₁; clear h₁; simp only [regN]) | ((with_reducible refine g_exit hD (k' := ?_) ?_ (fun _ h₁ => ?_)); rotate_left; (focus exact rfl); replace hF := rl hF h₁; clear h₁) | ((first | ((with_reducible refine g_ct hD ?_ ?_); (focus exact rfl)) | ((with_reducible refine g_cf hD ?_ ?_); (focus exact rfl))); intro _ h₁; replace hF := rl hF h₁; clear h₁)))
    refine Goes.step rfl fun w₂ h₂ => ?_
    replace hF := rl hF h₂
    clear h₂
    refine goes_oper_k rfl rfl (by decide) (fun K hK => ?_)
    have h1 := hcell _ hF
    go_simp
    refine hK _ _ ⟨sd_read fun e he => ?_, ?_⟩
    · have hm := mem_listed he
      simp [go_sem, h1] at hm
      exact ⟨_, _, _, hm, hsb, cell_lt h1⟩
    clear hK K h1
    try walk_nrm
    by_cases c2 : 1048576 < x
    · have d2 : decide (1048576 < x) = true := decide_eq_true c2
      have hin : inR x = false := by simp only [inR, Bool.and_eq_false_iff, decide_eq_false_iff_not]; omega
      clear c1 c2
      repeat ((first | ((with_reducible refine g_opG ?_); (first | ((with_reducible refine g_unw hD (o := ?_) ?_ ?_ (fun _ h₁ => ?_)); rotate_left; (focus exact rfl); (focus exact rfl); replace hF := rl hF h₁; clear h₁; walk_nrm) | (refine Goes.step rfl (fun _ h₁ => ?_); replace hF := rl hF h₁; clear h₁; refine goes_oper_k rfl rfl (by k_ne) (fun K hK => ?_); go_simp; refine hK _ _ ⟨?_, ?_⟩; (focus (refine g_idle hD ?_; intro e he; have hm := mem_listed he; simp [go_sem, *] at hm; done)); clear hK K; try w_num))) | ((with_reducible first | refine g_regE hD ?_ | refine g_seq hD ?_ | refine g_skip hD ?_ | refine g_block hD ?_ | refine g_inBlock hD ?_ | refine g_inLoop hD ?_ | refine g_loop hD ?_ | refine g_ret hD ?_ | refine g_end hD ?_); intro _ h₁; replace hF := rl hF h₁; clear h₁) | ((with_reducible refine g_reg hD (fun _ h₁ => ?_)); replace hF := rl hF h₁; clear h₁; simp only [regN]) | ((with_reducible refine g_exit hD (k' := ?_) ?_ (fun _ h₁ => ?_)); rotate_left; (focus exact rfl); replace hF := rl hF h₁; clear h₁) | ((first | ((with_reducible refine g_ct hD ?_ ?_); (focus exact rfl)) | ((with_reducible refine g_cf hD ?_ ?_); (focus exact rfl))); intro _ h₁; replace hF := rl hF h₁; clear h₁)))
      refine Goes.step rfl fun w₃ h₃ => ?_
      replace hF := rl hF h₃
      clear h₃
      refine goes_leave1 rfl rfl Try.func9 rfl ⟨sd_idle _, ?_⟩
      exact Goes.stop fun w₄ h₄ => hyes.out hin _ (rl hF h₄)
    · have d2 : decide (1048576 < x) = false := decide_eq_false c2
      have hin : inR x = true := by simp only [inR, Bool.and_eq_true, decide_eq_true_eq]; omega
      clear c1 c2
      repeat ((first | ((with_reducible refine g_opG ?_); (first | ((with_reducible refine g_unw hD (o := ?_) ?_ ?_ (fun _ h₁ => ?_)); rotate_left; (focus exact rfl); (focus exact rfl); replace hF := rl hF h₁; clear h₁; walk_nrm) | (refine Goes.step rfl (fun _ h₁ => ?_); replace hF := rl hF h₁; clear h₁; refine goes_oper_k rfl rfl (by k_ne) (fun K hK => ?_); go_simp; refine hK _ _ ⟨?_, ?_⟩; (focus (refine g_idle hD ?_; intro e he; have hm := mem_listed he; simp [go_sem, *] at hm; done)); clear hK K; try w_num))) | ((with_reducible first | refine g_regE hD ?_ | refine g_seq hD ?_ | refine g_skip hD ?_ | refine g_block hD ?_ | refine g_inBlock hD ?_ | refine g_loop hD ?_ | refine g_ret hD ?_ | refine g_end hD ?_); intro _ h₁; replace hF := rl hF h₁; clear h₁) | ((with_reducible refine g_reg hD (fun _ h₁ => ?_)); replace hF := rl hF h₁; clear h₁; simp only [regN]) | ((with_reducible refine g_exit hD (k' := ?_) ?_ (fun _ h₁ => ?_)); rotate_left; (focus exact rfl); replace hF := rl hF h₁; clear h₁) | ((first | ((with_reducible refine g_ct hD ?_ ?_); (focus exact rfl)) | ((with_reducible refine g_cf hD ?_ ?_); (focus exact rfl))); intro _ h₁; replace hF := rl hF h₁; clear h₁)))
      (first | ((with_reducible refine g_opG ?_); (first | ((with_reducible refine g_unw hD (o := ?_) ?_ ?_ (fun _ h₁ => ?_)); rotate_left; (focus exact rfl); (focus exact rfl); replace hF := rl hF h₁; clear h₁; walk_nrm) | (refine Goes.step rfl (fun _ h₁ => ?_); replace hF := rl hF h₁; clear h₁; refine goes_oper_k rfl rfl (by k_ne) (fun K hK => ?_); go_simp; refine hK _ _ ⟨?_, ?_⟩; (focus (refine g_idle hD ?_; intro e he; have hm := mem_listed he; simp [go_sem, *] at hm; done)); clear hK K; try w_num))) | ((with_reducible first | refine g_regE hD ?_ | refine g_seq hD ?_ | refine g_skip hD ?_ | refine g_block hD ?_ | refine g_inBlock hD ?_ | refine g_inLoop hD ?_ | refine g_loop hD ?_ | refine g_ret hD ?_ | refine g_end hD ?_); intro _ h₁; replace hF := rl hF h₁; clear h₁) | ((with_reducible refine g_reg hD (fun _ h₁ => ?_)); replace hF := rl hF h₁; clear h₁; simp only [regN]) | ((with_reducible refine g_exit hD (k' := ?_) ?_ (fun _ h₁ => ?_)); rotate_left; (focus exact rfl); replace hF := rl hF h₁; clear h₁) | ((first | ((with_reducible refine g_ct hD ?_ ?_); (focus exact rfl)) | ((with_reducible refine g_cf hD ?_ ?_); (focus exact rfl))); intro _ h₁; replace hF := rl hF h₁; clear h₁))
      exact Goes.stop fun w₄ h₄ => hno.out hin _ _ (rl hF h₄) ⟨rfl, rfl, rfl, rfl⟩

set_option maxRecDepth 100000 in
set_option maxHeartbeats 4000000 in
theorem sm_first {Stop : Goroutine → World → Prop} (hF : AtRel w w₁)
    (hgo : ∀ U w₁, AtRel w w₁ → U9 fa ns.length cap 0 U → Stop (G ((base 9).at ⟨U, []⟩ [.code lp9, .inLoop lp9, .inBlock 0, .code (cS (cS body9))]) (b₀.at a₀ (.inRegion ops₀ (i₀ :: rest₀) :: k₀) :: cs)) w₁) :
    Goes Try.prog true AtRel (SD Shun) Stop 30 (G ((base 9).at ⟨#[.slice fa ns.length cap, undef, undef, undef, undef, undef, undef, undef, undef, undef, undef, undef, undef, undef, undef, undef, undef, undef, undef, undef, undef, undef, undef, undef, undef], []⟩ [.code body9]) (b₀.at a₀ (.inRegion ops₀ (i₀ :: rest₀) :: k₀) :: cs)) w₁ := by
  have hD : ∀ w, SD Shun w w #[] := sd_idle
  have rl : ∀ {w₁ w₂ : World}, AtRel w w₁ → AtRel w₁ w₂ → AtRel w w₂ := fun h r => AtRel.steady.rel h r
  replace hgo := Hd.mk hgo
  simp only [lp9, cS, cF, cI, body9, Try.f9, Option.getD_some] at hgo ⊢
  repeat ((first | ((with_reducible refine g_opG ?_); (first | ((with_reducible refine g_unw hD (o := ?_) ?_ ?_ (fun _ h₁ => ?_)); rotate_left; (focus exact rfl); (focus exact rfl); replace hF := rl hF h₁; clear h₁; walk_nrm) | (refine Goes.step rfl (fun _ h₁ => ?_); replace hF := rl hF h₁; clear h₁; refine goes_oper_k rfl rfl (by k_ne) (fun K hK => ?_); go_simp; refine hK _ _ ⟨?_, ?_⟩; (focus (refine g_idle hD ?_; intro e he; have hm := mem_listed he; simp [go_sem, *] at hm; done)); clear hK K; try w_num))) | ((with_reducible first | refine g_regE hD ?_ | refine g_seq hD ?_ | refine g_skip hD ?_ | refine g_block hD ?_ | refine g_inBlock hD ?_ | refine g_inLoop hD ?_ | refine g_ret hD ?_ | refine g_end hD ?_); intro _ h₁; replace hF := rl hF h₁; clear h₁) | ((with_reducible refine g_reg hD (fun _ h₁ => ?_)); replace hF := rl hF h₁; clear h₁; simp only [regN]) | ((with_reducible refine g_exit hD (k' := ?_) ?_ (fun _ h₁ => ?_)); rotate_left; (focus exact rfl); replace hF := rl hF h₁; clear h₁) | ((first | ((with_reducible refine g_ct hD ?_ ?_); (focus exact rfl)) | ((with_reducible refine g_cf hD ?_ ?_); (focus exact rfl))); intro _ h₁; replace hF := rl hF h₁; clear h₁)))
  (first | ((with_reducible refine g_opG ?_); (first | ((with_reducible refine g_unw hD (o := ?_) ?_ ?_ (fun _ h₁ => ?_)); rotate_left; (focus exact rfl); (focus exact rfl); replace hF := rl hF h₁; clear h₁; walk_nrm) | (refine Goes.step rfl (fun _ h₁ => ?_); replace hF := rl hF h₁; clear h₁; refine goes_oper_k rfl rfl (by k_ne) (fun K hK => ?_); go_simp; refine hK _ _ ⟨?_, ?_⟩; (focus (refine g_idle hD ?_; intro e he; have hm := mem_listed he; simp [go_sem, *] at hm; done)); clear hK K; try w_num))) | ((with_reducible first | refine g_regE hD ?_ | refine g_seq hD ?_ | refine g_skip hD ?_ | refine g_block hD ?_ | refine g_inBlock hD ?_ | refine g_inLoop hD ?_ | refine g_loop hD ?_ | refine g_ret hD ?_ | refine g_end hD ?_); intro _ h₁; replace hF := rl hF h₁; clear h₁) | ((with_reducible refine g_reg hD (fun _ h₁ => ?_)); replace hF := rl hF h₁; clear h₁; simp only [regN]) | ((with_reducible refine g_exit hD (k' := ?_) ?_ (fun _ h₁ => ?_)); rotate_left; (focus exact rfl); replace hF := rl hF h₁; clear h₁) | ((first | ((with_reducible refine g_ct hD ?_ ?_); (focus exact rfl)) | ((with_reducible refine g_cf hD ?_ ?_); (focus exact rfl))); intro _ h₁; replace hF := rl hF h₁; clear h₁))
  exact Goes.stop fun w₄ h₄ => hgo.out _ _ (rl hF h₄) ⟨rfl, rfl, rfl, rfl⟩

set_option maxRecDepth 100000 in
set_option maxHeartbeats 4000000 in
theorem sm_done {Stop : Goroutine → World → Prop} {U : Array Value} (hU : U9 fa ns.length cap ns.length U) (hF : AtRel w w₁)
    (hgo : ∀ w₁, AtRel w w₁ → Stop (G (b₀.at (a₀.put ((ops₀[i₀]?).bind (·.dst)) (.bool (decide (ns.length ≤ 300)))) (.inRegion ops₀ rest₀ :: k₀)) cs) w₁) :
    Goes Try.prog true AtRel (SD Shun) Stop 40 (G ((base 9).at ⟨U, []⟩ [.code lp9, .inLoop lp9, .inBlock 0, .code (cS (cS body9))]) (b₀.at a₀ (.inRegion ops₀ (i₀ :: rest₀) :: k₀) :: cs)) w₁ := by
  have hD : ∀ w, SD Shun w w #[] := sd_idle
  have rl : ∀ {w₁ w₂ : World}, AtRel w w₁ → AtRel w₁ w₂ → AtRel w w₂ := fun h r => AtRel.steady.rel h r
  obtain ⟨hs, t0, t2, t3⟩ := hU
  obtain ⟨v0, v1, v2, v3, v4, v5, v6, v7, v8, v9, v10, v11, v12, v13, v14, v15, v16, v17, v18, v19, v20, v21, v22, v23, v24, rfl⟩ := array25 U hs
  simp only [List.getElem?_toArray, List.getElem?_cons_zero, List.getElem?_cons_succ, Option.some.injEq] at t0 t2 t3
  subst t0 t2 t3
  clear hs
  have hlt : decide ((ns.length : Int) < (ns.length : Int)) = false := decide_eq_false (by omega)
  have hle : decide ((ns.length : Int) ≤ 300) = decide (ns.length ≤ 300) := by
    by_cases h : ns.length ≤ 300
    · rw [decide_eq_true h, decide_eq_true (by omega)]
    · rw [decide_eq_false h, decide_eq_false (by omega)]
  replace hgo := Hd.mk hgo
  simp only [lp9, cS, cF, cI, body9, Try.f9, Option.getD_some] at hgo ⊢
  repeat ((first | ((with_reducible refine g_opG ?_); (first | ((with_reducible refine g_unw hD (o := ?_) ?_ ?_ (fun _ h₁ => ?_)); rotate_left; (focus exact rfl); (focus exact rfl); replace hF := rl hF h₁; clear h₁; walk_nrm) | (refine Goes.step rfl (fun _ h₁ => ?_); replace hF := rl hF h₁; clear h₁; refine goes_oper_k rfl rfl (by k_ne) (fun K hK => ?_); go_simp; refine hK _ _ ⟨?_, ?_⟩; (focus (refine g_idle hD ?_; intro e he; have hm := mem_listed he; simp [go_sem, *] at hm; done)); clear hK K; try w_num))) | ((with_reducible first | refine g_regE hD ?_ | refine g_seq hD ?_ | refine g_skip hD ?_ | refine g_block hD ?_ | refine g_inBlock hD ?_ | refine g_inLoop hD ?_ | refine g_loop hD ?_ | refine g_ret hD ?_ | refine g_end hD ?_); intro _ h₁; replace hF := rl hF h₁; clear h₁) | ((with_reducible refine g_reg hD (fun _ h₁ => ?_)); replace hF := rl hF h₁; clear h₁; simp only [regN]) | ((with_reducible refine g_exit hD (k' := ?_) ?_ (fun _ h₁ => ?_)); rotate_left; (focus exact rfl); replace hF := rl hF h₁; clear h₁) | ((first | ((with_reducible refine g_ct hD ?_ ?_); (focus exact rfl)) | ((with_reducible refine g_cf hD ?_ ?_); (focus exact rfl))); intro _ h₁; replace hF := rl hF h₁; clear h₁)))
  refine Goes.step rfl fun w₃ h₃ => ?_
  replace hF := rl hF h₃
  clear h₃
  refine goes_leave1 rfl rfl Try.func9 rfl ⟨sd_idle _, ?_⟩
  exact Goes.stop fun w₄ h₄ => hgo.out _ (rl hF h₄)

theorem sm_loop {N0 : Nat} (hL : Ls Shun fa (ints ns) w) (hlen : ns.length < 9223372036854775808) : ∀ (m i : Nat) (U : Array Value) (w₁ : World), i + m = ns.length → (ns.take i).all inR = true → AtRel w w₁ → U9 fa ns.length cap i U →
    Lone Try.prog N0 (fun S g w' => S = Shun ∧ AtRel w w' ∧ g = G (b₀.at (a₀.put ((ops₀[i₀]?).bind (·.dst)) (.bool (smallB ns))) (.inRegion ops₀ rest₀ :: k₀)) cs) Shun (G ((base 9).at ⟨U, []⟩ [.code lp9, .inLoop lp9, .inBlock 0, .code (cS (cS body9))]) (b₀.at a₀ (.inRegion ops₀ (i₀ :: rest₀) :: k₀) :: cs)) w₁ := by
  intro m
  induction m with
  | zero =>
    intro i U w₁ hi ha hF hU
    obtain rfl : i = ns.length := by omega
    refine Lone.goes (n := 40) (sm_done hU hF fun w₂ h₂ => ⟨rfl, h₂, ?_⟩)
    rw [List.take_length] at ha
    simp [smallB, ha]
  | succ m ih =>
    intro i U w₁ hi ha hF hU
    have hlt : i < ns.length := by omega
    have hv : ns[i]? = some ns[i] := List.getElem?_eq_getElem hlt
    refine Lone.on (n := 60) (sm_round hL hlen hv hU hF (fun hn U' w' hF' hU' _ => ?_) (fun hy w' hF' _ => ?_))
    · refine ih (i + 1) U' w' (by omega) ?_ hF' hU'
      rw [List.take_add_one, hv, List.all_append, ha, Option.toList_some, List.all_cons, hn]
      rfl
    · refine Lone.done ⟨rfl, hF', ?_⟩
      have : ns.all inR = false := by
        rw [List.all_eq_false]
        exact ⟨ns[i], List.getElem_mem hlt, by simp [hy]⟩
      simp [smallB, this]
/-- A call of small. -/
theorem small_call {N0 : Nat} (hL : Ls Shun fa (ints ns) w) (hlen : ns.length < 9223372036854775808) :
    Lone Try.prog N0 (fun S g w' => S = Shun ∧ AtRel w w' ∧ g = G (b₀.at (a₀.put ((ops₀[i₀]?).bind (·.dst)) (.bool (smallB ns))) (.inRegion ops₀ rest₀ :: k₀)) cs) Shun (G ((base 9).at ⟨#[.slice fa ns.length cap, undef, undef, undef, undef, undef, undef, undef, undef, undef, undef, undef, undef, undef, undef, undef, undef, undef, undef, undef, undef, undef, undef, undef, undef], []⟩ [.code body9]) (b₀.at a₀ (.inRegion ops₀ (i₀ :: rest₀) :: k₀) :: cs)) w :=
  Lone.on (n := 30) (sm_first (ns := ns) ⟨w.drawn, rfl⟩ fun U w₁ hF hU _ => sm_loop hL hlen ns.length 0 U w₁ (by omega) (by simp) hF hU)
end
end Go.Proofs.Ytblpmdolclalnaa

namespace Go.Proofs.Ytblpmdolclalnaa
open Go.Conc Go.RowKit Go.Conc.Lib Go.ConcR.Gen Go.ConcN.Gen

noncomputable def body14 : Code := Try.f14.body.getD .skip
noncomputable def tl14 : Nat → Code | 0 => body14 | n + 1 => cS (tl14 n)
noncomputable def lp14 : Code := cI (cI (cS (cF (tl14 2))))
noncomputable def ops14 : Array Oper := cO (cF (cI (cF (cS lp14))))
structure U14 (fa fb : Option Addr) (na ca nb cb i : Nat) (U : Array Value) : Prop where
  size : U.size = 26
  t0 : U[0]? = some (.slice fa na ca)
  t1 : U[1]? = some (.slice fb nb cb)
  t4 : U[4]? = some (.bool false)
  t5 : U[5]? = some (.int .i64 i)
/-- The values of the region that draws. -/
def val14 (ba oa na ca bb ob nb cb i : Nat) (x y : Int) : Nat → Value
  | 0 => .slice (some ⟨ba, oa, none⟩) na ca
  | 1 => .int .i64 i
  | 2 => .pointer (some ⟨ba, oa + i, none⟩)
  | 3 => .int .i64 x
  | 4 => .slice (some ⟨bb, ob, none⟩) nb cb
  | 5 => .int .i64 i
  | 6 => .pointer (some ⟨bb, ob + i, none⟩)
  | 7 => .int .i64 y
  | 8 => .bool (x != y)
  | _ => undef
theorem op14_0 : ops14[0]? = some { dst := some 17, op := Go.Op.move (Go.Operand.tmp 0), type := 22, pos := "ref.go:43", after := #[], guard := none } := by kernel_rfl
theorem op14_1 : ops14[1]? = some { dst := some 18, op := Go.Op.move (Go.Operand.tmp 5), type := 3, pos := "ref.go:43", after := #[], guard := none } := by kernel_rfl
theorem op14_2 : ops14[2]? = some { dst := some 19, op := Go.Op.indexAddr 22 (Go.Operand.tmp 17) (Go.Operand.tmp 18), type := 0, pos := "ref.go:43", after := #[{ on := 0, ground := Go.Ground.data }, { on := 1, ground := Go.Ground.data }], guard := none } := by kernel_rfl
theorem op14_3 : ops14[3]? = some { dst := some 20, op := Go.Op.load 3 (Go.Operand.tmp 19), type := 3, pos := "ref.go:43", after := #[{ on := 2, ground := Go.Ground.data }], guard := none } := by kernel_rfl
theorem op14_4 : ops14[4]? = some { dst := some 21, op := Go.Op.move (Go.Operand.tmp 1), type := 22, pos := "ref.go:43", after := #[], guard := none } := by kernel_rfl
theorem op14_5 : ops14[5]? = some { dst := some 22, op := Go.Op.move (Go.Operand.tmp 5), type := 3, pos := "ref.go:43", after := #[], guard := none } := by kernel_rfl
theorem op14_6 : ops14[6]? = some { dst := some 23, op := Go.Op.indexAddr 22 (Go.Operand.tmp 21) (Go.Operand.tmp 22), type := 0, pos := "ref.go:43", after := #[{ on := 4, ground := Go.Ground.data }, { on := 5, ground := Go.Ground.data }], guard := none } := by kernel_rfl
theorem op14_7 : ops14[7]? = some { dst := some 24, op := Go.Op.load 3 (Go.Operand.tmp 23), type := 3, pos := "ref.go:43", after := #[{ on := 6, ground := Go.Ground.data }], guard := none } := by kernel_rfl
theorem op14_8 : ops14[8]? = some { dst := some 25, op := Go.Op.binOp Go.BinOp.neq 3 (Go.Operand.tmp 20) (Go.Operand.tmp 24) 3, type := 4, pos := "ref.go:43", after := #[{ on := 3, ground := Go.Ground.data }, { on := 7, ground := Go.Ground.data }], guard := none } := by kernel_rfl
theorem d14 {o : Oper} {i : Nat} (h : ops14[i]? = some o) : i < 9 := by
  have := (Array.getElem?_eq_some_iff.1 h).1
  have e : ops14.size = 9 := by kernel_rfl
  omega
section
variable {Shun : Nat → Prop} {w w₁ : World} {b₀ : Frame} {a₀ : Act} {ops₀ : Array Oper} {i₀ : Nat} {rest₀ : List Nat} {k₀ : List Item} {cs : List Frame} {fa fb : Option Addr} {ca cb i ba oa bb ob na nb : Nat} {ns ms : List Int} {x y : Int}
set_option maxRecDepth 100000 in
set_option maxHeartbeats 4000000 in
theorem quiet14 {T0 : Array Value} (hT : U14 (some ⟨ba, oa, none⟩) (some ⟨bb, ob, none⟩) na ca nb cb i T0) (hia : i < na) (hib : i < nb) (hsa : ¬ Shun ba) (hsb : ¬ Shun bb) (hca : w.cell? ⟨ba, oa + i, none⟩ = some (.int .i64 x)) (hcb : w.cell? ⟨bb, ob + i, none⟩ = some (.int .i64 y)) :
    QuietR Try.prog (base 14).fn ops14 T0 [] (fun k => 17 + k) (val14 ba oa na ca bb ob nb cb i x y) (AtRel w) (SD Shun) := by
  have e9 : ops14.size = 9 := by kernel_rfl
  refine ⟨fun a b _ _ h => by omega, fun i hi => by rw [hT.size]; omega, fun k o h => ?_, fun k o h => ?_, fun k o T w₁ h hF hdep hbase => ?_⟩
  · have hk := d14 h
    have : k = 0 ∨ k = 1 ∨ k = 2 ∨ k = 3 ∨ k = 4 ∨ k = 5 ∨ k = 6 ∨ k = 7 ∨ k = 8 := by omega
    rcases this with rfl | rfl | rfl | rfl | rfl | rfl | rfl | rfl | rfl <;> (first | rw [op14_0] at h | rw [op14_1] at h | rw [op14_2] at h | rw [op14_3] at h | rw [op14_4] at h | rw [op14_5] at h | rw [op14_6] at h | rw [op14_7] at h | rw [op14_8] at h) <;> (cases h; exact ⟨rfl, rfl⟩)
  · have hk := d14 h
    have : k = 0 ∨ k = 1 ∨ k = 2 ∨ k = 3 ∨ k = 4 ∨ k = 5 ∨ k = 6 ∨ k = 7 ∨ k = 8 := by omega
    rcases this with rfl | rfl | rfl | rfl | rfl | rfl | rfl | rfl | rfl <;> (first | rw [op14_0] at h | rw [op14_1] at h | rw [op14_2] at h | rw [op14_3] at h | rw [op14_4] at h | rw [op14_5] at h | rw [op14_6] at h | rw [op14_7] at h | rw [op14_8] at h) <;> (cases h; intro e he; simp at he; try (rcases he with rfl | rfl <;> simp); try (subst he; simp))
  · have hk := d14 h
    have b0 := (hbase 0 fun k hk => by omega).trans hT.t0
    have b1 := (hbase 1 fun k hk => by omega).trans hT.t1
    have b5 := (hbase 5 fun k hk => by omega).trans hT.t5
    have ha : w₁.cell? ⟨ba, oa + i, none⟩ = some (.int .i64 x) := by obtain ⟨d, rfl⟩ := hF; exact hca
    have hb : w₁.cell? ⟨bb, ob + i, none⟩ = some (.int .i64 y) := by obtain ⟨d, rfl⟩ := hF; exact hcb
    have : k = 0 ∨ k = 1 ∨ k = 2 ∨ k = 3 ∨ k = 4 ∨ k = 5 ∨ k = 6 ∨ k = 7 ∨ k = 8 := by omega
    have ia : (0 : Int) ≤ (i : Int) ∧ (i : Int) < (na : Int) := by omega
    have ib : (0 : Int) ≤ (i : Int) ∧ (i : Int) < (nb : Int) := by omega
    have nil : ∀ (es : Array Event), (∀ e ∈ es, False) → SD Shun w₁ w₁ es := fun es h => g_idle (fun w => sd_idle w) h
    rcases this with rfl | rfl | rfl | rfl | rfl | rfl | rfl | rfl | rfl
    · rw [op14_0] at h
      cases h
      constructor
      · simp [execOp, go_sem, val14, b0]
      · refine nil _ fun ev hev => ?_
        have hm := mem_listed hev
        simp [execOp, go_sem, b0] at hm
    · rw [op14_1] at h
      cases h
      constructor
      · simp [execOp, go_sem, val14, b5]
      · refine nil _ fun ev hev => ?_
        have hm := mem_listed hev
        simp [execOp, go_sem, b5] at hm
    · rw [op14_2] at h
      cases h
      have e0 : T[17]? = some (.slice (some ⟨ba, oa, none⟩) na ca) := hdep ⟨0, .data⟩ (by simp) rfl
      have e1 : T[18]? = some (.int .i64 i) := hdep ⟨1, .data⟩ (by simp) rfl
      constructor
      · simp [execOp, go_sem, val14, e0, e1, ia]
      · refine nil _ fun ev hev => ?_
        have hm := mem_listed hev
        simp [execOp, go_sem, e0, e1, ia] at hm
    · rw [op14_3] at h
      cases h
      have e2 : T[19]? = some (.pointer (some ⟨ba, oa + i, none⟩)) := hdep ⟨2, .data⟩ (by simp) rfl
      constructor
      · simp [execOp, go_sem, val14, e2, ha]
      · refine sd_read fun ev hev => ?_
        have hm := mem_listed hev
        simp [execOp, go_sem, e2, ha] at hm
        exact ⟨_, _, _, hm, hsa, cell_lt ha⟩
    · rw [op14_4] at h
      cases h
      constructor
      · simp [execOp, go_sem, val14, b1]
      · refine nil _ fun ev hev => ?_
        have hm := mem_listed hev
        simp [execOp, go_sem, b1] at hm
    · rw [op14_5] at h
      cases h
      constructor
      · simp [execOp, go_sem, val14, b5]
      · refine nil _ fun ev hev => ?_
        have hm := mem_listed hev
        simp [execOp, go_sem, b5] at hm
    · rw [op14_6] at h
      cases h
      have e4 : T[21]? = some (.slice (some ⟨bb, ob, none⟩) nb cb) := hdep ⟨4, .data⟩ (by simp) rfl
      have e5 : T[22]? = some (.int .i64 i) := hdep ⟨5, .data⟩ (by simp) rfl
      constructor
      · simp [execOp, go_sem, val14, e4, e5, ib]
      · refine nil _ fun ev hev => ?_
        have hm := mem_listed hev
        simp [execOp, go_sem, e4, e5, ib] at hm
    · rw [op14_7] at h
      cases h
      have e6 : T[23]? = some (.pointer (some ⟨bb, ob + i, none⟩)) := hdep ⟨6, .data⟩ (by simp) rfl
      constructor
      · simp [execOp, go_sem, val14, e6, hb]
      · refine sd_read fun ev hev => ?_
        have hm := mem_listed hev
        simp [execOp, go_sem, e6, hb] at hm
        exact ⟨_, _, _, hm, hsb, cell_lt hb⟩
    · rw [op14_8] at h
      cases h
      have e3 : T[20]? = some (.int .i64 x) := hdep ⟨3, .data⟩ (by simp) rfl
      have e7 : T[24]? = some (.int .i64 y) := hdep ⟨7, .data⟩ (by simp) rfl
      constructor
      · simp [execOp, go_sem, val14, e3, e7]
      · refine nil _ fun ev hev => ?_
        have hm := mem_listed hev
        simp [execOp, go_sem, e3, e7] at hm

set_option maxRecDepth 100000 in
set_option maxHeartbeats 4000000 in
theorem eq_round {Stop : Goroutine → World → Prop} (hA : Ls Shun fa (ints ns) w) (hB : Ls Shun fb (ints ms) w) (hl : ms.length = ns.length) (hlen : ns.length < 4611686018427387904) (hx : ns[i]? = some x) (hy : ms[i]? = some y) {U : Array Value} (hU : U14 fa fb ns.length ca ns.length cb i U) (hF : AtRel w w₁)
    (hno : x = y → ∀ U w₁, AtRel w w₁ → U14 fa fb ns.length ca ns.length cb (i + 1) U → Stop (G ((base 14).at ⟨U, []⟩ [.code lp14, .inLoop lp14, .inBlock 0, .code (tl14 3)]) (b₀.at a₀ (.inRegion ops₀ (i₀ :: rest₀) :: k₀) :: cs)) w₁)
    (hyes : x ≠ y → ∀ w₁, AtRel w w₁ → Stop (G (b₀.at (a₀.put ((ops₀[i₀]?).bind (·.dst)) (.bool false)) (.inRegion ops₀ rest₀ :: k₀)) cs) w₁) :
    Goes Try.prog true AtRel (SD Shun) Stop 60 (G ((base 14).at ⟨U, []⟩ [.code lp14, .inLoop lp14, .inBlock 0, .code (tl14 3)]) (b₀.at a₀ (.inRegion ops₀ (i₀ :: rest₀) :: k₀) :: cs)) w₁ := by
  have hD : ∀ w, SD Shun w w #[] := sd_idle
  have rl : ∀ {w₁ w₂ : World}, AtRel w w₁ → AtRel w₁ w₂ → AtRel w w₂ := fun h r => AtRel.steady.rel h r
  obtain ⟨hs, t0, t1, t4, t5⟩ := hU
  obtain ⟨v0, v1, v2, v3, v4, v5, v6, v7, v8, v9, v10, v11, v12, v13, v14, v15, v16, v17, v18, v19, v20, v21, v22, v23, v24, v25, rfl⟩ := array26 U hs
  simp only [List.getElem?_toArray, List.getElem?_cons_zero, List.getElem?_cons_succ, Option.some.injEq] at t0 t1 t4 t5
  subst t0 t1 t4 t5
  clear hs
  have hi : i < ns.length := (List.getElem?_eq_some_iff.1 hx).1
  have hlt : decide ((i : Int) < (ns.length : Int)) = true := decide_eq_true (by omega)
  have hadd : IntKind.i64.wrap ((i : Int) + 1) = ((i + 1 : Nat) : Int) := by rw [IntKind.wrap_i64]; omega
  obtain ⟨ba, oa, rfl, hsa, hca⟩ := hA i (.int .i64 x) (by rw [List.getElem?_map, hx]; rfl)
  obtain ⟨bb, ob, rfl, hsb, hcb⟩ := hB i (.int .i64 y) (by rw [List.getElem?_map, hy]; rfl)
  replace hlen := Hd.mk hlen
  replace hno := Hd.mk hno
  replace hyes := Hd.mk hyes
  have hQ := Hd.mk fun (T0 : Array Value) (h : U14 (some ⟨ba, oa, none⟩) (some ⟨bb, ob, none⟩) ns.length ca ns.length cb i T0) => quiet14 h hi hi hsa hsb hca hcb
  simp only [ops14, lp14, tl14, cO, cS, cF, cI, body14, Try.f14, Option.getD_some] at hQ
  clear hA hB hx hy hca hcb hl
  simp only [lp14, tl14, cS, cF, cI, body14, Try.f14, Option.getD_some] at hno ⊢
  repeat ((first | ((with_reducible refine g_opG ?_); (first | ((with_reducible refine g_unw hD (o := ?_) ?_ ?_ (fun _ h₁ => ?_)); rotate_left; (focus exact rfl); (focus exact rfl); replace hF := rl hF h₁; clear h₁; walk_nrm) | (refine Goes.step rfl (fun _ h₁ => ?_); replace hF := rl hF h₁; clear h₁; refine goes_oper_k rfl rfl (by k_ne) (fun K hK => ?_); go_simp; refine hK _ _ ⟨?_, ?_⟩; (focus (refine g_idle hD ?_; intro e he; have hm := mem_listed he; simp [go_sem, *] at hm; done)); clear hK K; try w_num))) | ((with_reducible first | refine g_regE hD ?_ | refine g_seq hD ?_ | refine g_skip hD ?_ | refine g_block hD ?_ | refine g_inBlock hD ?_ | refine g_inLoop hD ?_ | refine g_loop hD ?_ | refine g_ret hD ?_ | refine g_end hD ?_); intro _ h₁; replace hF := rl hF h₁; clear h₁) | ((with_reducible refine g_reg hD (fun _ h₁ => ?_)); replace hF := rl hF h₁; clear h₁; simp only [regN]) | ((with_reducible refine g_exit hD (k' := ?_) ?_ (fun _ h₁ => ?_)); rotate_left; (focus exact rfl); replace hF := rl hF h₁; clear h₁) | ((first | ((with_reducible refine g_ct hD ?_ ?_); (focus exact rfl)) | ((with_reducible refine g_cf hD ?_ ?_); (focus exact rfl))); intro _ h₁; replace hF := rl hF h₁; clear h₁)))
  refine Goes.mono (n := 30 + 9 + 1) (goes_still (by kernel_rfl) (fun w => ⟨Nat.le_refl _, fun e he => by simp at he⟩) (hQ.out _ ⟨rfl, rfl, rfl, rfl, rfl⟩) (by decide) rl (fun w' h => by obtain ⟨d, rfl⟩ := h; exact ⟨d + 1, rfl⟩) hF (fun w₂ hF => ?_)) (by omega)
  have e : fillD #[.slice (some ⟨ba, oa, none⟩) ns.length ca, .slice (some ⟨bb, ob, none⟩) ns.length cb, v2, v3, .bool false, .int .i64 i, v6, v7, v8, v9, v10, .int .i64 i, .slice (some ⟨ba, oa, none⟩) ns.length ca, .int .i64 ns.length, .bool true, v15, v16, v17, v18, v19, v20, v21, v22, v23, v24, v25] (fun k => 17 + k) (val14 ba oa ns.length ca bb ob ns.length cb i x y) (Array.replicate 9 true) 9 = #[.slice (some ⟨ba, oa, none⟩) ns.length ca, .slice (some ⟨bb, ob, none⟩) ns.length cb, v2, v3, .bool false, .int .i64 i, v6, v7, v8, v9, v10, .int .i64 i, .slice (some ⟨ba, oa, none⟩) ns.length ca, .int .i64 ns.length, .bool true, v15, v16, .slice (some ⟨ba, oa, none⟩) ns.length ca, .int .i64 i, .pointer (some ⟨ba, oa + i, none⟩), .int .i64 x, .slice (some ⟨bb, ob, none⟩) ns.length cb, .int .i64 i, .pointer (some ⟨bb, ob + i, none⟩), .int .i64 y, .bool (x != y)] := by rfl
  simp only [List.size_toArray, List.length_cons, List.length_nil, Nat.reduceAdd, Nat.zero_add]
  rw [e]
  clear e hQ
  by_cases c1 : x = y
  · have d1 : (x != y) = false := by simp [c1]
    rw [d1]
    repeat ((first | ((with_reducible refine g_opG ?_); (first | ((with_reducible refine g_unw hD (o := ?_) ?_ ?_ (fun _ h₁ => ?_)); rotate_left; (focus exact rfl); (focus exact rfl); replace hF := rl hF h₁; clear h₁; walk_nrm) | (refine Goes.step rfl (fun _ h₁ => ?_); replace hF := rl hF h₁; clear h₁; refine goes_oper_k rfl rfl (by k_ne) (fun K hK => ?_); go_simp; refine hK _ _ ⟨?_, ?_⟩; (focus (refine g_idle hD ?_; intro e he; have hm := mem_listed he; simp [go_sem, *] at hm; done)); clear hK K; try w_num))) | ((with_reducible first | refine g_regE hD ?_ | refine g_seq hD ?_ | refine g_skip hD ?_ | refine g_block hD ?_ | refine g_inBlock hD ?_ | refine g_loop hD ?_ | refine g_ret hD ?_ | refine g_end hD ?_); intro _ h₁; replace hF := rl hF h₁; clear h₁) | ((with_reducible refine g_reg hD (fun _ h₁ => ?_)); replace hF := rl hF h₁; clear h₁; simp only [regN]) | ((with_reducible refine g_exit hD (k' := ?_) ?_ (fun _ h₁ => ?_)); rotate_left; (focus exact rfl); replace hF := rl hF h₁; clear h₁) | ((first | ((with_reducible refine g_ct hD ?_ ?_); (focus exact rfl)) | ((with_reducible refine g_cf hD ?_ ?_); (focus exact rfl))); intro _ h₁; replace hF := rl hF h₁; clear h₁)))
    (first | ((with_reducible refine g_opG ?_); (first | ((with_reducible refine g_unw hD (o := ?_) ?_ ?_ (fun _ h₁ => ?_)); rotate_left; (focus exact rfl); (focus exact rfl); replace hF := rl hF h₁; clear h₁; walk_nrm) | (refine Goes.step rfl (fun _ h₁ => ?_); replace hF := rl hF h₁; clear h₁; refine goes_oper_k rfl rfl (by k_ne) (fun K hK => ?_); go_simp; refine hK _ _ ⟨?_, ?_⟩; (focus (refine g_idle hD ?_; intro e he; have hm := mem_listed he; simp [go_sem, *] at hm; done)); clear hK K; try w_num))) | ((with_reducible first | refine g_regE hD ?_ | refine g_seq hD ?_ | refine g_skip hD ?_ | refine g_block hD ?_ | refine g_inBlock hD ?_ | refine g_inLoop hD ?_ | refine g_loop hD ?_ | refine g_ret hD ?_ | refine g_end hD ?_); intro _ h₁; replace hF := rl hF h₁; clear h₁) | ((with_reducible refine g_reg hD (fun _ h₁ => ?_)); replace hF := rl hF h₁; clear h₁; simp only [regN]) | ((with_reducible refine g_exit hD (k' := ?_) ?_ (fun _ h₁ => ?_)); rotate_left; (focus exact rfl); replace hF := rl hF h₁; clear h₁) | ((first | ((with_reducible refine g_ct hD ?_ ?_); (focus exact rfl)) | ((with_reducible refine g_cf hD ?_ ?_); (focus exact rfl))); intro _ h₁; replace hF := rl hF h₁; clear h₁))
    exact Goes.stop fun w₄ h₄ => hno.out c1 _ _ (rl hF h₄) ⟨rfl, rfl, rfl, rfl, rfl⟩
  · have d1 : (x != y) = true := by simp [c1]
    rw [d1]
    repeat ((first | ((with_reducible refine g_opG ?_); (first | ((with_reducible refine g_unw hD (o := ?_) ?_ ?_ (fun _ h₁ => ?_)); rotate_left; (focus exact rfl); (focus exact rfl); replace hF := rl hF h₁; clear h₁; walk_nrm) | (refine Goes.step rfl (fun _ h₁ => ?_); replace hF := rl hF h₁; clear h₁; refine goes_oper_k rfl rfl (by k_ne) (fun K hK => ?_); go_simp; refine hK _ _ ⟨?_, ?_⟩; (focus (refine g_idle hD ?_; intro e he; have hm := mem_listed he; simp [go_sem, *] at hm; done)); clear hK K; try w_num))) | ((with_reducible first | refine g_regE hD ?_ | refine g_seq hD ?_ | refine g_skip hD ?_ | refine g_block hD ?_ | refine g_inBlock hD ?_ | refine g_inLoop hD ?_ | refine g_loop hD ?_ | refine g_ret hD ?_ | refine g_end hD ?_); intro _ h₁; replace hF := rl hF h₁; clear h₁) | ((with_reducible refine g_reg hD (fun _ h₁ => ?_)); replace hF := rl hF h₁; clear h₁; simp only [regN]) | ((with_reducible refine g_exit hD (k' := ?_) ?_ (fun _ h₁ => ?_)); rotate_left; (focus exact rfl); replace hF := rl hF h₁; clear h₁) | ((first | ((with_reducible refine g_ct hD ?_ ?_); (focus exact rfl)) | ((with_reducible refine g_cf hD ?_ ?_); (focus exact rfl))); intro _ h₁; replace hF := rl hF h₁; clear h₁)))
    refine Goes.step rfl fun w₃ h₃ => ?_
    replace hF := rl hF h₃
    clear h₃
    refine goes_leave1 rfl rfl Try.func14 rfl ⟨sd_idle _, ?_⟩
    exact Goes.stop fun w₄ h₄ => hyes.out c1 _ (rl hF h₄)

set_option maxRecDepth 100000 in
set_option maxHeartbeats 4000000 in
theorem eq_first {Stop : Goroutine → World → Prop} (hF : AtRel w w₁)
    (hgo : na = nb → ∀ U w₁, AtRel w w₁ → U14 fa fb na ca na cb 0 U → Stop (G ((base 14).at ⟨U, []⟩ [.code lp14, .inLoop lp14, .inBlock 0, .code (tl14 3)]) (b₀.at a₀ (.inRegion ops₀ (i₀ :: rest₀) :: k₀) :: cs)) w₁)
    (hne : na ≠ nb → ∀ w₁, AtRel w w₁ → Stop (G (b₀.at (a₀.put ((ops₀[i₀]?).bind (·.dst)) (.bool false)) (.inRegion ops₀ rest₀ :: k₀)) cs) w₁) :
    Goes Try.prog true AtRel (SD Shun) Stop 40 (G ((base 14).at ⟨#[.slice fa na ca, .slice fb nb cb, undef, undef, undef, undef, undef, undef, undef, undef, undef, undef, undef, undef, undef, undef, undef, undef, undef, undef, undef, undef, undef, undef, undef, undef], []⟩ [.code body14]) (b₀.at a₀ (.inRegion ops₀ (i₀ :: rest₀) :: k₀) :: cs)) w₁ := by
  have hD : ∀ w, SD Shun w w #[] := sd_idle
  have rl : ∀ {w₁ w₂ : World}, AtRel w w₁ → AtRel w₁ w₂ → AtRel w w₂ := fun h r => AtRel.steady.rel h r
  replace hgo := Hd.mk hgo
  replace hne := Hd.mk hne
  simp only [lp14, tl14, cS, cF, cI, body14, Try.f14, Option.getD_some] at hgo ⊢
  by_cases c1 : na = nb
  · subst c1
    have d1 : ((na : Int) != (na : Int)) = false := by simp
    repeat ((first | ((with_reducible refine g_opG ?_); (first | ((with_reducible refine g_unw hD (o := ?_) ?_ ?_ (fun _ h₁ => ?_)); rotate_left; (focus exact rfl); (focus exact rfl); replace hF := rl hF h₁; clear h₁; walk_nrm) | (refine Goes.step rfl (fun _ h₁ => ?_); replace hF := rl hF h₁; clear h₁; refine goes_oper_k rfl rfl (by k_ne) (fun K hK => ?_); go_simp; refine hK _ _ ⟨?_, ?_⟩; (focus (refine g_idle hD ?_; intro e he; have hm := mem_listed he; simp [go_sem, *] at hm; done)); clear hK K; try w_num))) | ((with_reducible first | refine g_regE hD ?_ | refine g_seq hD ?_ | refine g_skip hD ?_ | refine g_block hD ?_ | refine g_inBlock hD ?_ | refine g_inLoop hD ?_ | refine g_ret hD ?_ | refine g_end hD ?_); intro _ h₁; replace hF := rl hF h₁; clear h₁) | ((with_reducible refine g_reg hD (fun _ h₁ => ?_)); replace hF := rl hF h₁; clear h₁; simp only [regN]) | ((with_reducible refine g_exit hD (k' := ?_) ?_ (fun _ h₁ => ?_)); rotate_left; (focus exact rfl); replace hF := rl hF h₁; clear h₁) | ((first | ((with_reducible refine g_ct hD ?_ ?_); (focus exact rfl)) | ((with_reducible refine g_cf hD ?_ ?_); (focus exact rfl))); intro _ h₁; replace hF := rl hF h₁; clear h₁)))
    (first | ((with_reducible refine g_opG ?_); (first | ((with_reducible refine g_unw hD (o := ?_) ?_ ?_ (fun _ h₁ => ?_)); rotate_left; (focus exact rfl); (focus exact rfl); replace hF := rl hF h₁; clear h₁; walk_nrm) | (refine Goes.step rfl (fun _ h₁ => ?_); replace hF := rl hF h₁; clear h₁; refine goes_oper_k rfl rfl (by k_ne) (fun K hK => ?_); go_simp; refine hK _ _ ⟨?_, ?_⟩; (focus (refine g_idle hD ?_; intro e he; have hm := mem_listed he; simp [go_sem, *] at hm; done)); clear hK K; try w_num))) | ((with_reducible first | refine g_regE hD ?_ | refine g_seq hD ?_ | refine g_skip hD ?_ | refine g_block hD ?_ | refine g_inBlock hD ?_ | refine g_inLoop hD ?_ | refine g_loop hD ?_ | refine g_ret hD ?_ | refine g_end hD ?_); intro _ h₁; replace hF := rl hF h₁; clear h₁) | ((with_reducible refine g_reg hD (fun _ h₁ => ?_)); replace hF := rl hF h₁; clear h₁; simp only [regN]) | ((with_reducible refine g_exit hD (k' := ?_) ?_ (fun _ h₁ => ?_)); rotate_left; (focus exact rfl); replace hF := rl hF h₁; clear h₁) | ((first | ((with_reducible refine g_ct hD ?_ ?_); (focus exact rfl)) | ((with_reducible refine g_cf hD ?_ ?_); (focus exact rfl))); intro _ h₁; replace hF := rl hF h₁; clear h₁))
    exact Goes.stop fun w₄ h₄ => hgo.out rfl _ _ (rl hF h₄) ⟨rfl, rfl, rfl, rfl, rfl⟩
  · have d1 : ((na : Int) != (nb : Int)) = true := by have : (na : Int) ≠ (nb : Int) := (by omega); simpa using this
    repeat ((first | ((with_reducible refine g_opG ?_); (first | ((with_reducible refine g_unw hD (o := ?_) ?_ ?_ (fun _ h₁ => ?_)); rotate_left; (focus exact rfl); (focus exact rfl); replace hF := rl hF h₁; clear h₁; walk_nrm) | (refine Goes.step rfl (fun _ h₁ => ?_); replace hF := rl hF h₁; clear h₁; refine goes_oper_k rfl rfl (by k_ne) (fun K hK => ?_); go_simp; refine hK _ _ ⟨?_, ?_⟩; (focus (refine g_idle hD ?_; intro e he; have hm := mem_listed he; simp [go_sem, *] at hm; done)); clear hK K; try w_num))) | ((with_reducible first | refine g_regE hD ?_ | refine g_seq hD ?_ | refine g_skip hD ?_ | refine g_block hD ?_ | refine g_inBlock hD ?_ | refine g_inLoop hD ?_ | refine g_loop hD ?_ | refine g_ret hD ?_ | refine g_end hD ?_); intro _ h₁; replace hF := rl hF h₁; clear h₁) | ((with_reducible refine g_reg hD (fun _ h₁ => ?_)); replace hF := rl hF h₁; clear h₁; simp only [regN]) | ((with_reducible refine g_exit hD (k' := ?_) ?_ (fun _ h₁ => ?_)); rotate_left; (focus exact rfl); replace hF := rl hF h₁; clear h₁) | ((first | ((with_reducible refine g_ct hD ?_ ?_); (focus exact rfl)) | ((with_reducible refine g_cf hD ?_ ?_); (focus exact rfl))); intro _ h₁; replace hF := rl hF h₁; clear h₁)))
    refine Goes.step rfl fun w₃ h₃ => ?_
    replace hF := rl hF h₃
    clear h₃
    refine goes_leave1 rfl rfl Try.func14 rfl ⟨sd_idle _, ?_⟩
    exact Goes.stop fun w₄ h₄ => hne.out c1 _ (rl hF h₄)

set_option maxRecDepth 100000 in
set_option maxHeartbeats 4000000 in
theorem eq_done {Stop : Goroutine → World → Prop} {U : Array Value} (hU : U14 fa fb na ca na cb na U) (hF : AtRel w w₁)
    (hgo : ∀ w₁, AtRel w w₁ → Stop (G (b₀.at (a₀.put ((ops₀[i₀]?).bind (·.dst)) (.bool true)) (.inRegion ops₀ rest₀ :: k₀)) cs) w₁) :
    Goes Try.prog true AtRel (SD Shun) Stop 40 (G ((base 14).at ⟨U, []⟩ [.code lp14, .inLoop lp14, .inBlock 0, .code (tl14 3)]) (b₀.at a₀ (.inRegion ops₀ (i₀ :: rest₀) :: k₀) :: cs)) w₁ := by
  have hD : ∀ w, SD Shun w w #[] := sd_idle
  have rl : ∀ {w₁ w₂ : World}, AtRel w w₁ → AtRel w₁ w₂ → AtRel w w₂ := fun h r => AtRel.steady.rel h r
  obtain ⟨hs, t0, t1, t4, t5⟩ := hU
  obtain ⟨v0, v1, v2, v3, v4, v5, v6, v7, v8, v9, v10, v11, v12, v13, v14, v15, v16, v17, v18, v19, v20, v21, v22, v23, v24, v25, rfl⟩ := array26 U hs
  simp only [List.getElem?_toArray, List.getElem?_cons_zero, List.getElem?_cons_succ, Option.some.injEq] at t0 t1 t4 t5
  subst t0 t1 t4 t5
  clear hs
  have hlt : decide ((na : Int) < (na : Int)) = false := decide_eq_false (by omega)
  replace hgo := Hd.mk hgo
  simp only [lp14, tl14, cS, cF, cI, body14, Try.f14, Option.getD_some] at hgo ⊢
  repeat ((first | ((with_reducible refine g_opG ?_); (first | ((with_reducible refine g_unw hD (o := ?_) ?_ ?_ (fun _ h₁ => ?_)); rotate_left; (focus exact rfl); (focus exact rfl); replace hF := rl hF h₁; clear h₁; walk_nrm) | (refine Goes.step rfl (fun _ h₁ => ?_); replace hF := rl hF h₁; clear h₁; refine goes_oper_k rfl rfl (by k_ne) (fun K hK => ?_); go_simp; refine hK _ _ ⟨?_, ?_⟩; (focus (refine g_idle hD ?_; intro e he; have hm := mem_listed he; simp [go_sem, *] at hm; done)); clear hK K; try w_num))) | ((with_reducible first | refine g_regE hD ?_ | refine g_seq hD ?_ | refine g_skip hD ?_ | refine g_block hD ?_ | refine g_inBlock hD ?_ | refine g_inLoop hD ?_ | refine g_loop hD ?_ | refine g_ret hD ?_ | refine g_end hD ?_); intro _ h₁; replace hF := rl hF h₁; clear h₁) | ((with_reducible refine g_reg hD (fun _ h₁ => ?_)); replace hF := rl hF h₁; clear h₁; simp only [regN]) | ((with_reducible refine g_exit hD (k' := ?_) ?_ (fun _ h₁ => ?_)); rotate_left; (focus exact rfl); replace hF := rl hF h₁; clear h₁) | ((first | ((with_reducible refine g_ct hD ?_ ?_); (focus exact rfl)) | ((with_reducible refine g_cf hD ?_ ?_); (focus exact rfl))); intro _ h₁; replace hF := rl hF h₁; clear h₁)))
  refine Goes.step rfl fun w₃ h₃ => ?_
  replace hF := rl hF h₃
  clear h₃
  refine goes_leave1 rfl rfl Try.func14 rfl ⟨sd_idle _, ?_⟩
  exact Goes.stop fun w₄ h₄ => hgo.out _ (rl hF h₄)

theorem eq_loop {N0 : Nat} (hA : Ls Shun fa (ints ns) w) (hB : Ls Shun fb (ints ms) w) (hl : ms.length = ns.length) (hlen : ns.length < 4611686018427387904) : ∀ (m i : Nat) (U : Array Value) (w₁ : World), i + m = ns.length → ns.take i = ms.take i → AtRel w w₁ → U14 fa fb ns.length ca ns.length cb i U →
    Lone Try.prog N0 (fun S g w' => S = Shun ∧ AtRel w w' ∧ g = G (b₀.at (a₀.put ((ops₀[i₀]?).bind (·.dst)) (.bool (decide (ns = ms)))) (.inRegion ops₀ rest₀ :: k₀)) cs) Shun (G ((base 14).at ⟨U, []⟩ [.code lp14, .inLoop lp14, .inBlock 0, .code (tl14 3)]) (b₀.at a₀ (.inRegion ops₀ (i₀ :: rest₀) :: k₀) :: cs)) w₁ := by
  intro m
  induction m with
  | zero =>
    intro i U w₁ hi ha hF hU
    obtain rfl : i = ns.length := by omega
    have e : ns = ms := by
      rw [List.take_length, ← hl, List.take_length] at ha
      exact ha
    refine Lone.goes (n := 40) (eq_done hU hF fun w₂ h₂ => ⟨rfl, h₂, ?_⟩)
    rw [decide_eq_true e]
  | succ m ih =>
    intro i U w₁ hi ha hF hU
    have hlt : i < ns.length := by omega
    have hv : ns[i]? = some ns[i] := List.getElem?_eq_getElem hlt
    have hv' : ms[i]? = some ms[i] := List.getElem?_eq_getElem (by omega)
    refine Lone.on (n := 60) (eq_round hA hB hl hlen hv hv' hU hF (fun hn U' w' hF' hU' _ => ?_) (fun hy w' hF' _ => ?_))
    · refine ih (i + 1) U' w' (by omega) ?_ hF' hU'
      rw [List.take_add_one, List.take_add_one, hv, hv', ha, hn]
    · refine Lone.done ⟨rfl, hF', ?_⟩
      have : ns ≠ ms := fun e => hy (by subst e; rfl)
      rw [decide_eq_false this]
/-- A call of Equal. -/
theorem equal_call {N0 : Nat} (hA : Ls Shun fa (ints ns) w) (hB : Ls Shun fb (ints ms) w) (hlen : ns.length < 4611686018427387904) :
    Lone Try.prog N0 (fun S g w' => S = Shun ∧ AtRel w w' ∧ g = G (b₀.at (a₀.put ((ops₀[i₀]?).bind (·.dst)) (.bool (decide (ns = ms)))) (.inRegion ops₀ rest₀ :: k₀)) cs) Shun (G ((base 14).at ⟨#[.slice fa ns.length ca, .slice fb ms.length cb, undef, undef, undef, undef, undef, undef, undef, undef, undef, undef, undef, undef, undef, undef, undef, undef, undef, undef, undef, undef, undef, undef, undef, undef], []⟩ [.code body14]) (b₀.at a₀ (.inRegion ops₀ (i₀ :: rest₀) :: k₀) :: cs)) w := by
  refine Lone.on (n := 40) (eq_first ⟨w.drawn, rfl⟩ (fun hl U w₁ hF hU _ => eq_loop hA hB hl.symm hlen ns.length 0 U w₁ (by omega) (by simp) hF hU) (fun hne w₁ hF _ => Lone.done ⟨rfl, hF, ?_⟩))
  have : ns ≠ ms := fun e => hne (by rw [e])
  rw [decide_eq_false this]
end
end Go.Proofs.Ytblpmdolclalnaa

namespace Go.Proofs.Ytblpmdolclalnaa
open Go.Conc Go.RowKit Go.Conc.Lib Go.ConcR.Gen Go.ConcN.Gen
section
variable {Shun : Nat → Prop} {F : World → Prop} {w : World} {cs : List Frame} {fa : Option Addr} {nf cap N0 : Nat} {b₀ : Frame} {a₀ : Act} {ops₀ : Array Oper} {i₀ : Nat} {rest₀ : List Nat} {k₀ : List Item}

set_option maxRecDepth 100000 in
set_option maxHeartbeats 4000000 in
theorem ch_many {Stop : Goroutine → World → Prop} (hS : Steady F) (hF : F w) {f : Fn} {fr cp : Array Value} (hnf : 16 < nf) (hgo : ∀ w, F w → Stop (G (b₀.at (a₀.put ((ops₀[i₀]?).bind (·.dst)) (.tuple #[.slice none 0 0, .int .i64 1])) (.inRegion ops₀ rest₀ :: k₀)) cs) w) :
    Goes Try.prog true AtRel (SD Shun) Stop 60 (G ((base 16).at ⟨#[.func f fr cp, .slice fa nf cap, undef, undef, undef, undef, undef, undef, undef, undef, undef, undef, undef, undef, undef, undef, undef, undef, undef, undef, undef, undef, undef, undef, undef, undef, undef, undef, undef, undef, undef, undef, undef, undef, undef, undef, undef, undef, undef, undef, undef, undef, undef, undef, undef, undef, undef, undef, undef], []⟩ [.code body16]) (b₀.at a₀ (.inRegion ops₀ (i₀ :: rest₀) :: k₀) :: cs)) w := by
  have hD : ∀ w, SD Shun w w #[] := sd_idle
  have rl : ∀ {w w₁ : World}, F w → AtRel w w₁ → F w₁ := fun h r => hS.rel h r
  have hgt : decide ((16 : Int) < (nf : Int)) = true := decide_eq_true (by omega)
  replace hgo := Hd.mk hgo
  simp only [body16, Try.f16, Option.getD_some]
  repeat ((first | ((with_reducible refine g_opG ?_); (first | ((with_reducible refine g_unw hD (o := ?_) ?_ ?_ (fun _ h₁ => ?_)); rotate_left; (focus exact rfl); (focus exact rfl); replace hF := rl hF h₁; clear h₁; walk_nrm) | (refine Goes.step rfl (fun _ h₁ => ?_); replace hF := rl hF h₁; clear h₁; refine goes_oper_k rfl rfl (by k_ne) (fun K hK => ?_); go_simp; refine hK _ _ ⟨?_, ?_⟩; (focus (refine g_idle hD ?_; intro e he; have hm := mem_listed he; simp [go_sem, *] at hm; done)); clear hK K; try w_num))) | ((with_reducible first | refine g_regE hD ?_ | refine g_seq hD ?_ | refine g_skip hD ?_ | refine g_block hD ?_ | refine g_inBlock hD ?_ | refine g_inLoop hD ?_ | refine g_loop hD ?_ | refine g_ret hD ?_ | refine g_end hD ?_); intro _ h₁; replace hF := rl hF h₁; clear h₁) | ((with_reducible refine g_reg hD (fun _ h₁ => ?_)); replace hF := rl hF h₁; clear h₁; simp only [regN]) | ((with_reducible refine g_exit hD (k' := ?_) ?_ (fun _ h₁ => ?_)); rotate_left; (focus exact rfl); replace hF := rl hF h₁; clear h₁) | ((first | ((with_reducible refine g_ct hD ?_ ?_); (focus exact rfl)) | ((with_reducible refine g_cf hD ?_ ?_); (focus exact rfl))); intro _ h₁; replace hF := rl hF h₁; clear h₁)))
  refine Goes.step rfl fun w₃ h₃ => ?_
  replace hF := rl hF h₃
  clear h₃
  refine goes_leave2 rfl rfl Try.func16 rfl ⟨sd_idle _, ?_⟩
  exact Goes.stop fun w₄ h₄ => hgo.out _ (rl hF h₄)

end
end Go.Proofs.Ytblpmdolclalnaa
