/- Goroutine 0 alone: the reference's Map. Made by gen_lad.py. Goroutine 0 alone: an append of a whole slice; the reference's Chain. Made by gen_lae.py. -/
import Derived.Test.YtblpmdolclalnaaB24
namespace Go.Proofs.Ytblpmdolclalnaa
open Go.Conc Go.RowKit Go.Conc.Lib Go.ConcR.Gen Go.ConcN.Gen

theorem array23 (T : Array Value) (h : T.size = 23) : ∃ v0 v1 v2 v3 v4 v5 v6 v7 v8 v9 v10 v11 v12 v13 v14 v15 v16 v17 v18 v19 v20 v21 v22, T = #[v0, v1, v2, v3, v4, v5, v6, v7, v8, v9, v10, v11, v12, v13, v14, v15, v16, v17, v18, v19, v20, v21, v22] := by
  obtain ⟨l⟩ := T
  match l, h with
  | [v0, v1, v2, v3, v4, v5, v6, v7, v8, v9, v10, v11, v12, v13, v14, v15, v16, v17, v18, v19, v20, v21, v22], _ => exact ⟨v0, v1, v2, v3, v4, v5, v6, v7, v8, v9, v10, v11, v12, v13, v14, v15, v16, v17, v18, v19, v20, v21, v22, rfl⟩

noncomputable def body15 : Code := Try.f15.body.getD .skip
noncomputable def tl15 : Nat → Code | 0 => body15 | n + 1 => cS (tl15 n)
noncomputable def lp15 : Code := cI (cI (cS (cF (tl15 2))))
structure U15 (fa : Option Addr) (n cap : Nat) (c : Int) (vo : Value) (i : Nat) (U : Array Value) : Prop where
  size : U.size = 23
  t0 : U[0]? = some (.int .u8 c)
  t1 : U[1]? = some (.slice fa n cap)
  t5 : U[5]? = some vo
  t6 : U[6]? = some (.int .i64 i)
/-- What is known in the loop: the values so far. -/
structure RMp (Shun : Nat → Prop) (w : World) (ys : List Int) (vo : Value) (w₁ : World) : Prop where
  keep : Keep Shun w Shun w₁
  row : w₁.ownsRow 0 3 1 vo ys.length (ints ys)
  rowO : ∀ g, vo.ownBlock = some g → w.heap.size ≤ g
structure RMx (Shun : Nat → Prop) (w : World) (ys : List Int) (vo : Value) (bx : Nat) (y : Int) (w₁ : World) : Prop where
  j : RMp Shun w ys vo w₁
  cell : w₁.cell? ⟨bx, 0, none⟩ = some (.int .i64 y)
  low : ¬ Shun bx
section
variable {Shun : Nat → Prop} {w w₁ w₂ : World} {b₀ : Frame} {a₀ : Act} {ops₀ : Array Oper} {i₀ : Nat} {rest₀ : List Nat} {k₀ : List Item} {cs : List Frame} {fa : Option Addr} {cap i bx : Nat} {ns ys : List Int} {x y c : Int} {vo : Value}
theorem RMp.steady : Steady (RMp Shun w ys vo) := fun _w d h => ⟨h.keep.at d, h.row, h.rowO⟩
theorem RMx.steady : Steady (RMx Shun w ys vo bx y) := fun w d h => ⟨RMp.steady w d h.j, h.cell, h.low⟩
theorem RMx.new (h : RMp Shun w ys vo w₁) : RMx Shun w ys vo w₁.heap.size y (w₁.alloc (.cells #[.int .i64 y] 3)) := by
  have hn := heap_alloc_new w₁ (Obj.cells #[Value.int .i64 y] 3)
  exact ⟨⟨h.keep.alloc _, ownsRow_of h.row fun g hg => heap_alloc_old _ _ g (h.row.lt g hg).2, h.rowO⟩, by unfold World.cell?; rw [hn]; rfl, fun hs => Nat.lt_irrefl _ (h.keep.s66.lt hs)⟩
theorem RMx.appended {vo' : Value} (h : RMx Shun w ys vo bx y w₁) (hgr : w₁.grownBy w₂ vo.ownBlock) (hrow : w₂.ownsRow 0 3 1 vo' (ys.length + 1) (ints ys ++ [.int .i64 y])) (hown : ∀ g, vo'.ownBlock = some g → vo.ownBlock = some g ∨ (w₁.heap.size ≤ g ∧ g < w₂.heap.size)) : RMp Shun w (ys ++ [y]) vo' w₂ := by
  refine ⟨h.j.keep.grown hgr h.j.row (by decide) h.j.rowO, by simpa using hrow, fun g hg => ?_⟩
  rcases hown g hg with e | e
  · exact h.j.rowO g e
  · exact Nat.le_trans h.j.keep.out.size e.1
theorem row_not (hr : w₁.ownsRow 0 3 1 vo ys.length (ints ys)) (h66 : S66 Shun w₁) : ∀ g, vo.ownBlock = some g → ¬ Shun g := fun g hg hs => by
  obtain ⟨cs, hc⟩ := row_tp hr hg
  obtain ⟨cs', hc'⟩ := h66 g hs
  rw [hc] at hc'
  cases hc'

set_option maxRecDepth 100000 in
set_option maxHeartbeats 8000000 in
theorem rm_round {Stop : Goroutine → World → Prop} (hc : 0 ≤ c ∧ c < 256) (hL : Ls Shun fa (ints ns) w) (hlen : ns.length < 900000) (hys : ys.length = i) (hx : ns[i]? = some x) {U : Array Value} (hU : U15 fa ns.length cap c vo i U) (hF : RMp Shun w ys vo w₁)
    (hgo : ∀ U vo' w₁, RMp Shun w (ys ++ [applyP c x]) vo' w₁ → U15 fa ns.length cap c vo' (i + 1) U → Stop (G ((base 15).at ⟨U, []⟩ [.code lp15, .inLoop lp15, .inBlock 0, .code (tl15 3)]) cs) w₁) :
    Goes Try.prog true AtRel (SD Shun) Stop 120 (G ((base 15).at ⟨U, []⟩ [.code lp15, .inLoop lp15, .inBlock 0, .code (tl15 3)]) cs) w₁ := by
  have hD : ∀ w, SD Shun w w #[] := sd_idle
  have rl : ∀ {w₁ w₂ : World}, RMp Shun w ys vo w₁ → AtRel w₁ w₂ → RMp Shun w ys vo w₂ := fun h r => RMp.steady.rel h r
  obtain ⟨hs, t0, t1, t5, t6⟩ := hU
  obtain ⟨v0, v1, v2, v3, v4, v5, v6, v7, v8, v9, v10, v11, v12, v13, v14, v15, v16, v17, v18, v19, v20, v21, v22, rfl⟩ := array23 U hs
  simp only [List.getElem?_toArray, List.getElem?_cons_zero, List.getElem?_cons_succ, Option.some.injEq] at t0 t1 t5 t6
  subst t0 t1 t5 t6
  clear hs
  have hi : i < ns.length := (List.getElem?_eq_some_iff.1 hx).1
  have hlt : decide ((i : Int) < (ns.length : Int)) = true := decide_eq_true (by omega)
  have hadd : IntKind.i64.wrap ((i : Int) + 1) = ((i + 1 : Nat) : Int) := by rw [IntKind.wrap_i64]; omega
  obtain ⟨bl, o, rfl, hsb, hcl⟩ := hL i (.int .i64 x) (by rw [List.getElem?_map, hx]; rfl)
  have hcell : ∀ w₁, Keep Shun w Shun w₁ → w₁.cell? ⟨bl, o + i, none⟩ = some (.int .i64 x) := fun w₁ h => (h.out.cell bl _ (cell_lt hcl) hsb).trans hcl
  replace hlen := Hd.mk hlen
  replace hgo := Hd.mk hgo
  replace hys := Hd.mk hys
  clear hL hcl hx
  simp only [lp15, tl15, cS, cF, cI, body15, Try.f15, Option.getD_some] at hgo ⊢
  repeat ((first | ((with_reducible refine g_opG ?_); (first | ((with_reducible refine g_unw hD (o := ?_) ?_ ?_ (fun _ h₁ => ?_)); rotate_left; (focus exact rfl); (focus exact rfl); replace hF := rl hF h₁; clear h₁; walk_nrm) | (refine Goes.step rfl (fun _ h₁ => ?_); replace hF := rl hF h₁; clear h₁; refine goes_oper_k rfl rfl (by k_ne) (fun K hK => ?_); go_simp; refine hK _ _ ⟨?_, ?_⟩; (focus (refine g_idle hD ?_; intro e he; have hm := mem_listed he; simp [go_sem, *] at hm; done)); clear hK K; try w_num))) | ((with_reducible first | refine g_regE hD ?_ | refine g_seq hD ?_ | refine g_skip hD ?_ | refine g_block hD ?_ | refine g_inBlock hD ?_ | refine g_inLoop hD ?_ | refine g_loop hD ?_ | refine g_ret hD ?_ | refine g_end hD ?_); intro _ h₁; replace hF := rl hF h₁; clear h₁) | ((with_reducible refine g_reg hD (fun _ h₁ => ?_)); replace hF := rl hF h₁; clear h₁; simp only [regN]) | ((with_reducible refine g_exit hD (k' := ?_) ?_ (fun _ h₁ => ?_)); rotate_left; (focus exact rfl); replace hF := rl hF h₁; clear h₁) | ((first | ((with_reducible refine g_ct hD ?_ ?_); (focus exact rfl)) | ((with_reducible refine g_cf hD ?_ ?_); (focus exact rfl))); intro _ h₁; replace hF := rl hF h₁; clear h₁)))
  refine Goes.step rfl fun w₂ h₂ => ?_
  replace hF := rl hF h₂
  clear h₂
  refine goes_oper_k rfl rfl (by decide) (fun K hK => ?_)
  have h1 := hcell _ hF.keep
  go_simp
  refine hK _ _ ⟨sd_read fun e he => ?_, ?_⟩
  · have hm := mem_listed he
    simp [go_sem, h1] at hm
    exact ⟨_, _, _, hm, hsb, cell_lt h1⟩
  clear hK K h1
  try walk_nrm
  -- Apply
  have key : ∀ (r : Int) (w₁ : World), RMp Shun w ys v5 w₁ → r = applyP c x → Goes Try.prog true AtRel (SD Shun) Stop 40 (G ((base 15).at ⟨#[.int .u8 c, .slice (some ⟨bl, o, none⟩) ns.length cap, v2, v3, v4, v5, .int .i64 i, .int .i64 i, .slice (some ⟨bl, o, none⟩) ns.length cap, .int .i64 ns.length, .bool true, v11, v12, v5, .int .u8 c, .slice (some ⟨bl, o, none⟩) ns.length cap, .int .i64 i, .pointer (some ⟨bl, o + i, none⟩), .int .i64 x, .int .i64 r, v20, v21, v22], []⟩ (.inRegion (cO (cI (cF (cS lp15)))) [7, 8, 9] :: [.inBlock 1, .code (cS (cS lp15)), .inLoop lp15, .inBlock 0, .code (tl15 3)])) cs) w₁ := by
    intro r w₁ hF hr
    subst hr
    simp only [lp15, tl15, cS, cF, cI, cO, body15, Try.f15, Option.getD_some]
    refine Goes.step rfl fun w₂ h₂ => ?_
    replace hF := rl hF h₂
    clear h₂
    refine goes_oper_k rfl rfl (by decide) (fun K hK => ?_)
    go_simp
    refine hK _ _ ⟨sd_new (by simp) (fun e he => ?_), ?_⟩
    · have hm := mem_listed he
      simp [go_sem] at hm
    clear hK K
    replace hF := RMx.new (y := applyP c x) hF
    generalize w₂.alloc (.cells #[.int .i64 (applyP c x)] 3) = w₃ at hF ⊢
    generalize w₂.heap.size = bx at hF ⊢
    clear w₂
    try walk_nrm
    refine Goes.step rfl fun w₄ h₄ => ?_
    replace hF := RMx.steady.rel hF h₄
    clear h₄
    obtain ⟨v', w', hr, hrow', hgr, hb', hsd⟩ := sd_append (P := Try.prog) (ty := 22) (cx := 1) oneT22 hF.j.row hF.cell rfl (by rw [hys.out]; have := hlen.out; omega) (row_not hF.j.row hF.j.keep.s66) hF.low (fun b hb => hF.j.keep.s66.lt hb)
    rw [stepG_value rfl rfl (by decide) (run_append_op _ _ 22 rfl rfl rfl hr)]
    simp only [goes_go]
    refine ⟨?_, ?_⟩
    · unfold listed
      rw [events_append_op _ _ 22 rfl rfl rfl]
      exact hsd _
    replace hF := hF.appended hgr hrow' hb'
    clear hsd hr hgr hb' hrow' w₄ rl
    have rl : ∀ {w₁ w₂ : World}, RMp Shun w (ys ++ [applyP c x]) v' w₁ → AtRel w₁ w₂ → RMp Shun w (ys ++ [applyP c x]) v' w₂ := fun h r => RMp.steady.rel h r
    walk_nrm
    repeat ((first | ((with_reducible refine g_opG ?_); (first | ((with_reducible refine g_unw hD (o := ?_) ?_ ?_ (fun _ h₁ => ?_)); rotate_left; (focus exact rfl); (focus exact rfl); replace hF := rl hF h₁; clear h₁; walk_nrm) | (refine Goes.step rfl (fun _ h₁ => ?_); replace hF := rl hF h₁; clear h₁; refine goes_oper_k rfl rfl (by k_ne) (fun K hK => ?_); go_simp; refine hK _ _ ⟨?_, ?_⟩; (focus (refine g_idle hD ?_; intro e he; have hm := mem_listed he; simp [go_sem, *] at hm; done)); clear hK K; try w_num))) | ((with_reducible first | refine g_regE hD ?_ | refine g_seq hD ?_ | refine g_skip hD ?_ | refine g_block hD ?_ | refine g_inBlock hD ?_ | refine g_loop hD ?_ | refine g_ret hD ?_ | refine g_end hD ?_); intro _ h₁; replace hF := rl hF h₁; clear h₁) | ((with_reducible refine g_reg hD (fun _ h₁ => ?_)); replace hF := rl hF h₁; clear h₁; simp only [regN]) | ((with_reducible refine g_exit hD (k' := ?_) ?_ (fun _ h₁ => ?_)); rotate_left; (focus exact rfl); replace hF := rl hF h₁; clear h₁) | ((first | ((with_reducible refine g_ct hD ?_ ?_); (focus exact rfl)) | ((with_reducible refine g_cf hD ?_ ?_); (focus exact rfl))); intro _ h₁; replace hF := rl hF h₁; clear h₁)))
    (first | ((with_reducible refine g_opG ?_); (first | ((with_reducible refine g_unw hD (o := ?_) ?_ ?_ (fun _ h₁ => ?_)); rotate_left; (focus exact rfl); (focus exact rfl); replace hF := rl hF h₁; clear h₁; walk_nrm) | (refine Goes.step rfl (fun _ h₁ => ?_); replace hF := rl hF h₁; clear h₁; refine goes_oper_k rfl rfl (by k_ne) (fun K hK => ?_); go_simp; refine hK _ _ ⟨?_, ?_⟩; (focus (refine g_idle hD ?_; intro e he; have hm := mem_listed he; simp [go_sem, *] at hm; done)); clear hK K; try w_num))) | ((with_reducible first | refine g_regE hD ?_ | refine g_seq hD ?_ | refine g_skip hD ?_ | refine g_block hD ?_ | refine g_inBlock hD ?_ | refine g_inLoop hD ?_ | refine g_loop hD ?_ | refine g_ret hD ?_ | refine g_end hD ?_); intro _ h₁; replace hF := rl hF h₁; clear h₁) | ((with_reducible refine g_reg hD (fun _ h₁ => ?_)); replace hF := rl hF h₁; clear h₁; simp only [regN]) | ((with_reducible refine g_exit hD (k' := ?_) ?_ (fun _ h₁ => ?_)); rotate_left; (focus exact rfl); replace hF := rl hF h₁; clear h₁) | ((first | ((with_reducible refine g_ct hD ?_ ?_); (focus exact rfl)) | ((with_reducible refine g_cf hD ?_ ?_); (focus exact rfl))); intro _ h₁; replace hF := rl hF h₁; clear h₁))
    exact Goes.stop fun w₁ h₁ => hgo.out _ _ _ (rl hF h₁) ⟨rfl, rfl, rfl, rfl, rfl⟩
  replace key := Hd.mk key
  simp only [lp15, tl15, cS, cF, cI, cO, body15, Try.f15, Option.getD_some] at key
  ((with_reducible refine g_opG ?_); refine Goes.step rfl (fun _ h₁ => ?_); replace hF := rl hF h₁; clear h₁; refine goes_call rfl rfl (by k_ne) rfl Try.func31 rfl rfl ⟨by exact (g_idle hD (fun e he => by simp at he)), ?_⟩; walk_nrmf Try.f31)
  repeat ((first | ((with_reducible refine g_opG ?_); (first | ((with_reducible refine g_unw hD (o := ?_) ?_ ?_ (fun _ h₁ => ?_)); rotate_left; (focus exact rfl); (focus exact rfl); replace hF := rl hF h₁; clear h₁; walk_nrm) | (refine Goes.step rfl (fun _ h₁ => ?_); replace hF := rl hF h₁; clear h₁; refine goes_oper_k rfl rfl (by k_ne) (fun K hK => ?_); go_simp; refine hK _ _ ⟨?_, ?_⟩; (focus (refine g_idle hD ?_; intro e he; have hm := mem_listed he; simp [go_sem, *] at hm; done)); clear hK K; try w_num))) | ((with_reducible first | refine g_regE hD ?_ | refine g_seq hD ?_ | refine g_skip hD ?_ | refine g_block hD ?_ | refine g_inBlock hD ?_ | refine g_inLoop hD ?_ | refine g_loop hD ?_ | refine g_ret hD ?_ | refine g_end hD ?_); intro _ h₁; replace hF := rl hF h₁; clear h₁) | ((with_reducible refine g_reg hD (fun _ h₁ => ?_)); replace hF := rl hF h₁; clear h₁; simp only [regN]) | ((with_reducible refine g_exit hD (k' := ?_) ?_ (fun _ h₁ => ?_)); rotate_left; (focus exact rfl); replace hF := rl hF h₁; clear h₁) | ((first | ((with_reducible refine g_ct hD ?_ ?_); (focus exact rfl)) | ((with_reducible refine g_cf hD ?_ ?_); (focus exact rfl))); intro _ h₁; replace hF := rl hF h₁; clear h₁)))
  have hm : c.tmod 5 = 0 ∨ c.tmod 5 = 1 ∨ c.tmod 5 = 2 ∨ c.tmod 5 = 3 ∨ c.tmod 5 = 4 := by rw [Int.tmod_eq_emod_of_nonneg hc.1]; omega
  rcases hm with hm | hm | hm | hm | hm <;> simp only [hm]
  all_goals
    repeat (first | (first | ((with_reducible refine g_opG ?_); (first | ((with_reducible refine g_unw hD (o := ?_) ?_ ?_ (fun _ h₁ => ?_)); rotate_left; (focus exact rfl); (focus exact rfl); replace hF := rl hF h₁; clear h₁; walk_nrm) | (refine Goes.step rfl (fun _ h₁ => ?_); replace hF := rl hF h₁; clear h₁; refine goes_oper_k rfl rfl (by k_ne) (fun K hK => ?_); go_simp; refine hK _ _ ⟨?_, ?_⟩; (focus (refine g_idle hD ?_; intro e he; have hm := mem_listed he; simp [go_sem, *] at hm; done)); clear hK K; try w_num))) | ((with_reducible first | refine g_regE hD ?_ | refine g_seq hD ?_ | refine g_skip hD ?_ | refine g_block hD ?_ | refine g_inBlock hD ?_ | refine g_inLoop hD ?_ | refine g_loop hD ?_ | refine g_ret hD ?_ | refine g_end hD ?_); intro _ h₁; replace hF := rl hF h₁; clear h₁) | ((with_reducible refine g_reg hD (fun _ h₁ => ?_)); replace hF := rl hF h₁; clear h₁; simp only [regN]) | ((with_reducible refine g_exit hD (k' := ?_) ?_ (fun _ h₁ => ?_)); rotate_left; (focus exact rfl); replace hF := rl hF h₁; clear h₁) | ((first | ((with_reducible refine g_ct hD ?_ ?_); (focus exact rfl)) | ((with_reducible refine g_cf hD ?_ ?_); (focus exact rfl))); intro _ h₁; replace hF := rl hF h₁; clear h₁) | ((with_reducible refine g_lvG ?_); refine Goes.step rfl (fun _ h₁ => ?_); replace hF := rl hF h₁; clear h₁; refine goes_leave1 rfl rfl Try.func31 rfl ⟨by exact (g_idle hD (fun e he => by simp at he)), ?_⟩; walk_nrm)))
    exact Goes.mono (n := 40) (key.out _ _ hF (by simp only [applyP, hm]; rfl)) (by decide)


set_option maxRecDepth 100000 in
set_option maxHeartbeats 4000000 in
theorem rm_first {Stop : Goroutine → World → Prop} {n : Nat} (h66 : S66 Shun w) (hF : AtRel w w₁)
    (hgo : ∀ U w₁, RMp Shun w [] (.slice none 0 0) w₁ → U15 fa n cap c (.slice none 0 0) 0 U → Stop (G ((base 15).at ⟨U, []⟩ [.code lp15, .inLoop lp15, .inBlock 0, .code (tl15 3)]) cs) w₁) :
    Goes Try.prog true AtRel (SD Shun) Stop 40 (G ((base 15).at ⟨#[.int .u8 c, .slice fa n cap, undef, undef, undef, undef, undef, undef, undef, undef, undef, undef, undef, undef, undef, undef, undef, undef, undef, undef, undef, undef, undef], []⟩ [.code body15]) cs) w₁ := by
  have hD : ∀ w, SD Shun w w #[] := sd_idle
  have rl : ∀ {w₁ w₂ : World}, AtRel w w₁ → AtRel w₁ w₂ → AtRel w w₂ := fun h r => AtRel.steady.rel h r
  replace hgo := Hd.mk hgo
  simp only [lp15, tl15, cS, cF, cI, body15, Try.f15, Option.getD_some] at hgo ⊢
  repeat ((first | ((with_reducible refine g_opG ?_); (first | ((with_reducible refine g_unw hD (o := ?_) ?_ ?_ (fun _ h₁ => ?_)); rotate_left; (focus exact rfl); (focus exact rfl); replace hF := rl hF h₁; clear h₁; walk_nrm) | (refine Goes.step rfl (fun _ h₁ => ?_); replace hF := rl hF h₁; clear h₁; refine goes_oper_k rfl rfl (by k_ne) (fun K hK => ?_); go_simp; refine hK _ _ ⟨?_, ?_⟩; (focus (refine g_idle hD ?_; intro e he; have hm := mem_listed he; simp [go_sem, *] at hm; done)); clear hK K; try w_num))) | ((with_reducible first | refine g_regE hD ?_ | refine g_seq hD ?_ | refine g_skip hD ?_ | refine g_block hD ?_ | refine g_inBlock hD ?_ | refine g_inLoop hD ?_ | refine g_ret hD ?_ | refine g_end hD ?_); intro _ h₁; replace hF := rl hF h₁; clear h₁) | ((with_reducible refine g_reg hD (fun _ h₁ => ?_)); replace hF := rl hF h₁; clear h₁; simp only [regN]) | ((with_reducible refine g_exit hD (k' := ?_) ?_ (fun _ h₁ => ?_)); rotate_left; (focus exact rfl); replace hF := rl hF h₁; clear h₁) | ((first | ((with_reducible refine g_ct hD ?_ ?_); (focus exact rfl)) | ((with_reducible refine g_cf hD ?_ ?_); (focus exact rfl))); intro _ h₁; replace hF := rl hF h₁; clear h₁)))
  (first | ((with_reducible refine g_opG ?_); (first | ((with_reducible refine g_unw hD (o := ?_) ?_ ?_ (fun _ h₁ => ?_)); rotate_left; (focus exact rfl); (focus exact rfl); replace hF := rl hF h₁; clear h₁; walk_nrm) | (refine Goes.step rfl (fun _ h₁ => ?_); replace hF := rl hF h₁; clear h₁; refine goes_oper_k rfl rfl (by k_ne) (fun K hK => ?_); go_simp; refine hK _ _ ⟨?_, ?_⟩; (focus (refine g_idle hD ?_; intro e he; have hm := mem_listed he; simp [go_sem, *] at hm; done)); clear hK K; try w_num))) | ((with_reducible first | refine g_regE hD ?_ | refine g_seq hD ?_ | refine g_skip hD ?_ | refine g_block hD ?_ | refine g_inBlock hD ?_ | refine g_inLoop hD ?_ | refine g_loop hD ?_ | refine g_ret hD ?_ | refine g_end hD ?_); intro _ h₁; replace hF := rl hF h₁; clear h₁) | ((with_reducible refine g_reg hD (fun _ h₁ => ?_)); replace hF := rl hF h₁; clear h₁; simp only [regN]) | ((with_reducible refine g_exit hD (k' := ?_) ?_ (fun _ h₁ => ?_)); rotate_left; (focus exact rfl); replace hF := rl hF h₁; clear h₁) | ((first | ((with_reducible refine g_ct hD ?_ ?_); (focus exact rfl)) | ((with_reducible refine g_cf hD ?_ ?_); (focus exact rfl))); intro _ h₁; replace hF := rl hF h₁; clear h₁))
  exact Goes.stop fun w₄ h₄ => hgo.out _ _ ⟨keep_refl_at h66 (rl hF h₄), ⟨rfl, .inl ⟨rfl, rfl⟩⟩, fun g hg => by cases hg⟩ ⟨rfl, rfl, rfl, rfl, rfl⟩

set_option maxRecDepth 100000 in
set_option maxHeartbeats 4000000 in
theorem rm_done {Stop : Goroutine → World → Prop} {n : Nat} {U : Array Value} (hU : U15 fa n cap c vo n U) (hF : RMp Shun w ys vo w₁)
    (hgo : ∀ w₁, RMp Shun w ys vo w₁ → Stop (G (b₀.at (a₀.put ((ops₀[i₀]?).bind (·.dst)) (vo)) (.inRegion ops₀ rest₀ :: k₀)) cs) w₁) :
    Goes Try.prog true AtRel (SD Shun) Stop 40 (G ((base 15).at ⟨U, []⟩ [.code lp15, .inLoop lp15, .inBlock 0, .code (tl15 3)]) (b₀.at a₀ (.inRegion ops₀ (i₀ :: rest₀) :: k₀) :: cs)) w₁ := by
  have hD : ∀ w, SD Shun w w #[] := sd_idle
  have rl : ∀ {w₁ w₂ : World}, RMp Shun w ys vo w₁ → AtRel w₁ w₂ → RMp Shun w ys vo w₂ := fun h r => RMp.steady.rel h r
  obtain ⟨hs, t0, t1, t5, t6⟩ := hU
  obtain ⟨v0, v1, v2, v3, v4, v5, v6, v7, v8, v9, v10, v11, v12, v13, v14, v15, v16, v17, v18, v19, v20, v21, v22, rfl⟩ := array23 U hs
  simp only [List.getElem?_toArray, List.getElem?_cons_zero, List.getElem?_cons_succ, Option.some.injEq] at t0 t1 t5 t6
  subst t0 t1 t5 t6
  clear hs
  have hlt : decide ((n : Int) < (n : Int)) = false := decide_eq_false (by omega)
  replace hgo := Hd.mk hgo
  simp only [lp15, tl15, cS, cF, cI, body15, Try.f15, Option.getD_some] at hgo ⊢
  repeat ((first | ((with_reducible refine g_opG ?_); (first | ((with_reducible refine g_unw hD (o := ?_) ?_ ?_ (fun _ h₁ => ?_)); rotate_left; (focus exact rfl); (focus exact rfl); replace hF := rl hF h₁; clear h₁; walk_nrm) | (refine Goes.step rfl (fun _ h₁ => ?_); replace hF := rl hF h₁; clear h₁; refine goes_oper_k rfl rfl (by k_ne) (fun K hK => ?_); go_simp; refine hK _ _ ⟨?_, ?_⟩; (focus (refine g_idle hD ?_; intro e he; have hm := mem_listed he; simp [go_sem, *] at hm; done)); clear hK K; try w_num))) | ((with_reducible first | refine g_regE hD ?_ | refine g_seq hD ?_ | refine g_skip hD ?_ | refine g_block hD ?_ | refine g_inBlock hD ?_ | refine g_inLoop hD ?_ | refine g_loop hD ?_ | refine g_ret hD ?_ | refine g_end hD ?_); intro _ h₁; replace hF := rl hF h₁; clear h₁) | ((with_reducible refine g_reg hD (fun _ h₁ => ?_)); replace hF := rl hF h₁; clear h₁; simp only [regN]) | ((with_reducible refine g_exit hD (k' := ?_) ?_ (fun _ h₁ => ?_)); rotate_left; (focus exact rfl); replace hF := rl hF h₁; clear h₁) | ((first | ((with_reducible refine g_ct hD ?_ ?_); (focus exact rfl)) | ((with_reducible refine g_cf hD ?_ ?_); (focus exact rfl))); intro _ h₁; replace hF := rl hF h₁; clear h₁)))
  refine Goes.step rfl fun w₃ h₃ => ?_
  replace hF := rl hF h₃
  clear h₃
  refine goes_leave1 rfl rfl Try.func15 rfl ⟨sd_idle _, ?_⟩
  exact Goes.stop fun w₄ h₄ => hgo.out _ (rl hF h₄)

/-- What a function of the reference leaves: a slice of its own. -/
def MapEnd (Shun : Nat → Prop) (w : World) (ys : List Int) (b₀ : Frame) (a₀ : Act) (ops₀ : Array Oper) (i₀ : Nat) (rest₀ : List Nat) (k₀ : List Item) (cs : List Frame) (S : Nat → Prop) (g : Goroutine) (w' : World) : Prop :=
  S = Shun ∧ ∃ vo, RMp Shun w ys vo w' ∧ g = G (b₀.at (a₀.put ((ops₀[i₀]?).bind (·.dst)) (vo)) (.inRegion ops₀ rest₀ :: k₀)) cs
theorem rm_loop {N0 : Nat} (hc : 0 ≤ c ∧ c < 256) (hL : Ls Shun fa (ints ns) w) (hlen : ns.length < 900000) : ∀ (m i : Nat) (U : Array Value) (vo : Value) (w₁ : World), i + m = ns.length → RMp Shun w ((ns.take i).map (applyP c)) vo w₁ → U15 fa ns.length cap c vo i U →
    Lone Try.prog N0 (MapEnd Shun w (ns.map (applyP c)) b₀ a₀ ops₀ i₀ rest₀ k₀ cs) Shun (G ((base 15).at ⟨U, []⟩ [.code lp15, .inLoop lp15, .inBlock 0, .code (tl15 3)]) (b₀.at a₀ (.inRegion ops₀ (i₀ :: rest₀) :: k₀) :: cs)) w₁ := by
  intro m
  induction m with
  | zero =>
    intro i U vo w₁ hi hF hU
    obtain rfl : i = ns.length := by omega
    rw [List.take_length] at hF
    exact Lone.goes (n := 40) (rm_done hU hF fun w₂ h₂ => ⟨rfl, vo, h₂, rfl⟩)
  | succ m ih =>
    intro i U vo w₁ hi hF hU
    have hlt : i < ns.length := by omega
    have hv : ns[i]? = some ns[i] := List.getElem?_eq_getElem hlt
    refine Lone.on (n := 120) (rm_round hc hL hlen (by simp; omega) hv hU hF fun U' vo' w' hF' hU' _ => ?_)
    refine ih (i + 1) U' vo' w' (by omega) ?_ hU'
    have e : (ns.take (i + 1)).map (applyP c) = (ns.take i).map (applyP c) ++ [applyP c ns[i]] := by
      rw [List.take_add_one, hv, List.map_append]; rfl
    rw [e]; exact hF'
/-- A call of the reference's Map. -/
theorem refmap_call {N0 : Nat} (hc : 0 ≤ c ∧ c < 256) (h66 : S66 Shun w) (hL : Ls Shun fa (ints ns) w) (hlen : ns.length < 900000) :
    Lone Try.prog N0 (MapEnd Shun w (ns.map (applyP c)) b₀ a₀ ops₀ i₀ rest₀ k₀ cs) Shun (G ((base 15).at ⟨#[.int .u8 c, .slice fa ns.length cap, undef, undef, undef, undef, undef, undef, undef, undef, undef, undef, undef, undef, undef, undef, undef, undef, undef, undef, undef, undef, undef], []⟩ [.code body15]) (b₀.at a₀ (.inRegion ops₀ (i₀ :: rest₀) :: k₀) :: cs)) w :=
  Lone.on (n := 40) (rm_first h66 ⟨w.drawn, rfl⟩ fun U w₁ hF hU _ => rm_loop hc hL hlen ns.length 0 U _ w₁ (by omega) hF hU)
end
end Go.Proofs.Ytblpmdolclalnaa

namespace Go.Proofs.Ytblpmdolclalnaa
open Go.Conc Go.RowKit Go.Conc.Lib Go.ConcR.Gen Go.ConcN.Gen

theorem sd_appends {P : Program} {t e ty : TypeId} (T : OneT P t e) {Shun : Nat → Prop} {w : World} {B : Nat} {v : Value} {n : Nat} {xs : List Value} (hown : w.ownsRow B e 1 v n xs) {bl o m cx : Nat} {news : List Value} (hl : news.length = m) (hnews : ∀ j u, news[j]? = some u → w.cell? ⟨bl, o + j, none⟩ = some u) (h1 : ∀ u ∈ news, u.oneCell' = true) (hn : n + m ≤ 1000000)
    (hW : ∀ g, v.ownBlock = some g → ¬ Shun g) (hb : ¬ Shun bl ∧ bl < w.heap.size) (hB : B ≤ w.heap.size) :
    ∃ v' w', (Builtin.append_ #[t, t] ty #[v, .slice (some ⟨bl, o, none⟩) m cx]).run P w = .ok v' w' ∧ w'.ownsRow B e 1 v' (n + m) (xs ++ news) ∧ w.grownBy w' v.ownBlock ∧
      ∀ fn, SD Shun w w' (seen P fn ((Builtin.append_ #[t, t] ty #[v, .slice (some ⟨bl, o, none⟩) m cx]).events P w #[])) := by
  obtain ⟨i, z, hi, hz, hs, hzs, hby⟩ := T.inf
  have h63 : n + m ≤ maxLen := by simp only [maxLen]; omega
  have hbytes : (n + m) * i.bytes ≤ 140737488355328 := Nat.le_trans (Nat.mul_le_mul hn hby) (by omega)
  have hadd : ∀ j u, news[j]? = some u → w.cell? ((⟨bl, o, none⟩ : Addr).add j) = some u := fun j u h => by rw [Addr.add_lit]; exact hnews j u h
  obtain ⟨v', w', hr, ho, hgr, _⟩ := run_append_own (P := P) w B t ty e i z 1 i.bytes T.und hi hz hs rfl hzs (by omega) v n xs hown ⟨bl, o, none⟩ m cx news (by omega) hadd h1 h63 hbytes hB
  have hev := events_append_where (P := P) w B t ty e i z 1 i.bytes T.und hi hz hs rfl v n xs hown ⟨bl, o, none⟩ m cx news (by omega) hadd h1 h63 hbytes
  refine ⟨v', w', hr, ho, hgr, fun fn => ⟨hgr.size, fun ev hm => ?_⟩⟩
  rcases hev ev (mem_seen hm) with ⟨ad, hloc, h⟩ | ⟨mk, rfl, hmm⟩
  · obtain ⟨loc, wr, sy⟩ := ev
    simp only at hloc h
    subst hloc
    refine .inl ⟨ad, wr, sy, rfl, ?_⟩
    rcases h with ⟨_, hx⟩ | hx
    · rw [hx]; exact ⟨hb.1, Nat.lt_of_lt_of_le hb.2 hgr.size⟩
    · exact ⟨hW _ hx.symm, Nat.lt_of_lt_of_le (hown.lt _ hx.symm).2 hgr.size⟩
  · rw [show mk = .noRoom from hmm]
    exact .inr (.inr rfl)
theorem row0 {w : World} {B e n : Nat} {v : Value} {xs : List Value} (h : w.ownsRow B e 1 v n xs) : w.ownsRow 0 e 1 v n xs := ⟨h.1, h.2.imp id fun ⟨g, cap, cur, a1, _, a3⟩ => ⟨g, cap, cur, a1, Nat.zero_le _, a3⟩⟩
theorem append_none {P : Program} {t e ty : TypeId} (T : OneT P t e) {w : World} {g : Nat} (es : Array Event) :
    (Builtin.append_ #[t, t] ty #[.slice (some ⟨g, 0, none⟩) 0 0, .slice none 0 0]).run P w = .ok (.slice (some ⟨g, 0, none⟩) 0 0) w ∧ (Builtin.append_ #[t, t] ty #[.slice (some ⟨g, 0, none⟩) 0 0, .slice none 0 0]).events P w es = es := by
  obtain ⟨i, z, hi, hz, hs, hzs, hby⟩ := T.inf
  constructor
  · simp [Builtin.append_, run_underlying T.und, sizeOf, typeInfo, hi, Builtin.lenOf, Builtin.firstCells, storeCells]
  · simp [Builtin.append_, run_underlying T.und, sizeOf, typeInfo, hi, Builtin.lenOf, Builtin.firstCells, storeCells]

/-- The functions one behind the other. -/
def chainL (codes ns : List Int) : List Int := codes.foldl (fun l c => l.map (applyP c)) ns
abbrev codesV (codes : List Int) : List Value := codes.map (Value.int .u8)
noncomputable def body17 : Code := Try.f17.body.getD .skip
noncomputable def tl17 : Nat → Code | 0 => body17 | n + 1 => cS (tl17 n)
noncomputable def lp17 : Code := cI (cI (cS (cF (tl17 2))))
noncomputable def ops17c : Array Oper := cO (cI (cF (cS lp17)))
noncomputable def k17c : List Item := [.inBlock 1, .code (cS (cS lp17)), .inLoop lp17, .inBlock 0, .code (tl17 3)]
structure U17 (fc : Option Addr) (nc cc : Nat) (vo : Value) (i : Nat) (U : Array Value) : Prop where
  size : U.size = 23
  t0 : U[0]? = some (.slice fc nc cc)
  t5 : U[5]? = some vo
  t6 : U[6]? = some (.int .i64 i)
section
variable {Shun : Nat → Prop} {w w₁ w₂ : World} {b₀ : Frame} {a₀ : Act} {ops₀ : Array Oper} {i₀ : Nat} {rest₀ : List Nat} {k₀ : List Item} {cs : List Frame} {fa fc : Option Addr} {cap cc i bx : Nat} {ns ys codes : List Int} {x y c : Int} {vo : Value}

set_option maxRecDepth 100000 in
set_option maxHeartbeats 8000000 in
/-- From the loop's head to the call of Map. -/
theorem rc_to {Stop : Goroutine → World → Prop} (hL : Ls Shun fc (codesV codes) w) (hlen : codes.length < 900000) (hx : codes[i]? = some c) {U : Array Value} (hU : U17 fc codes.length cc vo i U) (hF : RMp Shun w ys vo w₁)
    (hgo : ∀ U w₁, RMp Shun w ys vo w₁ → U17 fc codes.length cc vo i U → Stop (G ((base 15).at ⟨#[.int .u8 c, vo, undef, undef, undef, undef, undef, undef, undef, undef, undef, undef, undef, undef, undef, undef, undef, undef, undef, undef, undef, undef, undef], []⟩ [.code body15]) ((base 17).at ⟨U, []⟩ (.inRegion ops17c [5, 6] :: k17c) :: cs)) w₁) :
    Goes Try.prog true AtRel (SD Shun) Stop 60 (G ((base 17).at ⟨U, []⟩ [.code lp17, .inLoop lp17, .inBlock 0, .code (tl17 3)]) cs) w₁ := by
  have hD : ∀ w, SD Shun w w #[] := sd_idle
  have rl : ∀ {w₁ w₂ : World}, RMp Shun w ys vo w₁ → AtRel w₁ w₂ → RMp Shun w ys vo w₂ := fun h r => RMp.steady.rel h r
  obtain ⟨hs, t0, t5, t6⟩ := hU
  obtain ⟨v0, v1, v2, v3, v4, v5, v6, v7, v8, v9, v10, v11, v12, v13, v14, v15, v16, v17, v18, v19, v20, v21, v22, rfl⟩ := array23 U hs
  simp only [List.getElem?_toArray, List.getElem?_cons_zero, List.getElem?_cons_succ, Option.some.injEq] at t0 t5 t6
  subst t0 t5 t6
  clear hs
  have hi : i < codes.length := (List.getElem?_eq_some_iff.1 hx).1
  have hlt : decide ((i : Int) < (codes.length : Int)) = true := decide_eq_true (by omega)
  obtain ⟨bl, o, rfl, hsb, hcl⟩ := hL i (.int .u8 c) (by rw [List.getElem?_map, hx]; rfl)
  have hcell : ∀ w₁, Keep Shun w Shun w₁ → w₁.cell? ⟨bl, o + i, none⟩ = some (.int .u8 c) := fun w₁ h => (h.out.cell bl _ (cell_lt hcl) hsb).trans hcl
  replace hlen := Hd.mk hlen
  replace hgo := Hd.mk hgo
  clear hL hcl hx
  simp only [ops17c, k17c, lp17, tl17, cO, cS, cF, cI, body15, Try.f15, body17, Try.f17, Option.getD_some] at hgo ⊢
  repeat ((first | ((with_reducible refine g_opG ?_); (first | ((with_reducible refine g_unw hD (o := ?_) ?_ ?_ (fun _ h₁ => ?_)); rotate_left; (focus exact rfl); (focus exact rfl); replace hF := rl hF h₁; clear h₁; walk_nrm) | (refine Goes.step rfl (fun _ h₁ => ?_); replace hF := rl hF h₁; clear h₁; refine goes_oper_k rfl rfl (by k_ne) (fun K hK => ?_); go_simp; refine hK _ _ ⟨?_, ?_⟩; (focus (refine g_idle hD ?_; intro e he; have hm := mem_listed he; simp [go_sem, *] at hm; done)); clear hK K; try w_num))) | ((with_reducible first | refine g_regE hD ?_ | refine g_seq hD ?_ | refine g_skip hD ?_ | refine g_block hD ?_ | refine g_inBlock hD ?_ | refine g_inLoop hD ?_ | refine g_loop hD ?_ | refine g_ret hD ?_ | refine g_end hD ?_); intro _ h₁; replace hF := rl hF h₁; clear h₁) | ((with_reducible refine g_reg hD (fun _ h₁ => ?_)); replace hF := rl hF h₁; clear h₁; simp only [regN]) | ((with_reducible refine g_exit hD (k' := ?_) ?_ (fun _ h₁ => ?_)); rotate_left; (focus exact rfl); replace hF := rl hF h₁; clear h₁) | ((first | ((with_reducible refine g_ct hD ?_ ?_); (focus exact rfl)) | ((with_reducible refine g_cf hD ?_ ?_); (focus exact rfl))); intro _ h₁; replace hF := rl hF h₁; clear h₁)))
  refine Goes.step rfl fun w₂ h₂ => ?_
  replace hF := rl hF h₂
  clear h₂
  refine goes_oper_k rfl rfl (by decide) (fun K hK => ?_)
  have h1 := hcell _ hF.keep
  go_simp
  refine hK _ _ ⟨sd_read fun e he => ?_, ?_⟩
  · have hm := mem_listed he
    simp [go_sem, h1] at hm
    exact ⟨_, _, _, hm, hsb, cell_lt h1⟩
  clear hK K h1
  try walk_nrm
  repeat ((first | ((with_reducible refine g_opG ?_); (first | ((with_reducible refine g_unw hD (o := ?_) ?_ ?_ (fun _ h₁ => ?_)); rotate_left; (focus exact rfl); (focus exact rfl); replace hF := rl hF h₁; clear h₁; walk_nrm) | (refine Goes.step rfl (fun _ h₁ => ?_); replace hF := rl hF h₁; clear h₁; refine goes_oper_k rfl rfl (by k_ne) (fun K hK => ?_); go_simp; refine hK _ _ ⟨?_, ?_⟩; (focus (refine g_idle hD ?_; intro e he; have hm := mem_listed he; simp [go_sem, *] at hm; done)); clear hK K; try w_num))) | ((with_reducible first | refine g_regE hD ?_ | refine g_seq hD ?_ | refine g_skip hD ?_ | refine g_block hD ?_ | refine g_inBlock hD ?_ | refine g_inLoop hD ?_ | refine g_loop hD ?_ | refine g_ret hD ?_ | refine g_end hD ?_); intro _ h₁; replace hF := rl hF h₁; clear h₁) | ((with_reducible refine g_reg hD (fun _ h₁ => ?_)); replace hF := rl hF h₁; clear h₁; simp only [regN]) | ((with_reducible refine g_exit hD (k' := ?_) ?_ (fun _ h₁ => ?_)); rotate_left; (focus exact rfl); replace hF := rl hF h₁; clear h₁) | ((first | ((with_reducible refine g_ct hD ?_ ?_); (focus exact rfl)) | ((with_reducible refine g_cf hD ?_ ?_); (focus exact rfl))); intro _ h₁; replace hF := rl hF h₁; clear h₁)))
  ((with_reducible refine g_opG ?_); refine Goes.step rfl (fun _ h₁ => ?_); replace hF := rl hF h₁; clear h₁; refine goes_call rfl rfl (by k_ne) rfl Try.func15 rfl rfl ⟨by exact (g_idle hD (fun e he => by simp at he)), ?_⟩; walk_nrmf Try.f15)
  exact Goes.stop fun w₃ h₃ => hgo.out _ _ (rl hF h₃) ⟨rfl, rfl, rfl, rfl⟩

set_option maxRecDepth 100000 in
set_option maxHeartbeats 8000000 in
/-- From Map's return to the loop's head. -/
theorem rc_back {Stop : Goroutine → World → Prop} {n : Nat} {vo' : Value} (hi : i < 900000) {U : Array Value} (hU : U17 fc n cc vo i U) (hF : RMp Shun w ys vo' w₁)
    (hgo : ∀ U w₁, RMp Shun w ys vo' w₁ → U17 fc n cc vo' (i + 1) U → Stop (G ((base 17).at ⟨U, []⟩ [.code lp17, .inLoop lp17, .inBlock 0, .code (tl17 3)]) cs) w₁) :
    Goes Try.prog true AtRel (SD Shun) Stop 40 (G ((base 17).at ⟨U.setIfInBounds 21 vo', []⟩ (.inRegion ops17c [6] :: k17c)) cs) w₁ := by
  have hD : ∀ w, SD Shun w w #[] := sd_idle
  have rl : ∀ {w₁ w₂ : World}, RMp Shun w ys vo' w₁ → AtRel w₁ w₂ → RMp Shun w ys vo' w₂ := fun h r => RMp.steady.rel h r
  obtain ⟨hs, t0, t5, t6⟩ := hU
  obtain ⟨v0, v1, v2, v3, v4, v5, v6, v7, v8, v9, v10, v11, v12, v13, v14, v15, v16, v17, v18, v19, v20, v21, v22, rfl⟩ := array23 U hs
  simp only [List.getElem?_toArray, List.getElem?_cons_zero, List.getElem?_cons_succ, Option.some.injEq] at t0 t5 t6
  subst t0 t5 t6
  clear hs
  have hadd : IntKind.i64.wrap ((i : Int) + 1) = ((i + 1 : Nat) : Int) := by rw [IntKind.wrap_i64]; omega
  replace hi := Hd.mk hi
  replace hgo := Hd.mk hgo
  simp only [ops17c, k17c, lp17, tl17, cO, cS, cF, cI, body17, Try.f17, Option.getD_some] at hgo ⊢
  try walk_nrm
  repeat ((first | ((with_reducible refine g_opG ?_); (first | ((with_reducible refine g_unw hD (o := ?_) ?_ ?_ (fun _ h₁ => ?_)); rotate_left; (focus exact rfl); (focus exact rfl); replace hF := rl hF h₁; clear h₁; walk_nrm) | (refine Goes.step rfl (fun _ h₁ => ?_); replace hF := rl hF h₁; clear h₁; refine goes_oper_k rfl rfl (by k_ne) (fun K hK => ?_); go_simp; refine hK _ _ ⟨?_, ?_⟩; (focus (refine g_idle hD ?_; intro e he; have hm := mem_listed he; simp [go_sem, *] at hm; done)); clear hK K; try w_num))) | ((with_reducible first | refine g_regE hD ?_ | refine g_seq hD ?_ | refine g_skip hD ?_ | refine g_block hD ?_ | refine g_inBlock hD ?_ | refine g_loop hD ?_ | refine g_ret hD ?_ | refine g_end hD ?_); intro _ h₁; replace hF := rl hF h₁; clear h₁) | ((with_reducible refine g_reg hD (fun _ h₁ => ?_)); replace hF := rl hF h₁; clear h₁; simp only [regN]) | ((with_reducible refine g_exit hD (k' := ?_) ?_ (fun _ h₁ => ?_)); rotate_left; (focus exact rfl); replace hF := rl hF h₁; clear h₁) | ((first | ((with_reducible refine g_ct hD ?_ ?_); (focus exact rfl)) | ((with_reducible refine g_cf hD ?_ ?_); (focus exact rfl))); intro _ h₁; replace hF := rl hF h₁; clear h₁)))
  (first | ((with_reducible refine g_opG ?_); (first | ((with_reducible refine g_unw hD (o := ?_) ?_ ?_ (fun _ h₁ => ?_)); rotate_left; (focus exact rfl); (focus exact rfl); replace hF := rl hF h₁; clear h₁; walk_nrm) | (refine Goes.step rfl (fun _ h₁ => ?_); replace hF := rl hF h₁; clear h₁; refine goes_oper_k rfl rfl (by k_ne) (fun K hK => ?_); go_simp; refine hK _ _ ⟨?_, ?_⟩; (focus (refine g_idle hD ?_; intro e he; have hm := mem_listed he; simp [go_sem, *] at hm; done)); clear hK K; try w_num))) | ((with_reducible first | refine g_regE hD ?_ | refine g_seq hD ?_ | refine g_skip hD ?_ | refine g_block hD ?_ | refine g_inBlock hD ?_ | refine g_inLoop hD ?_ | refine g_loop hD ?_ | refine g_ret hD ?_ | refine g_end hD ?_); intro _ h₁; replace hF := rl hF h₁; clear h₁) | ((with_reducible refine g_reg hD (fun _ h₁ => ?_)); replace hF := rl hF h₁; clear h₁; simp only [regN]) | ((with_reducible refine g_exit hD (k' := ?_) ?_ (fun _ h₁ => ?_)); rotate_left; (focus exact rfl); replace hF := rl hF h₁; clear h₁) | ((first | ((with_reducible refine g_ct hD ?_ ?_); (focus exact rfl)) | ((with_reducible refine g_cf hD ?_ ?_); (focus exact rfl))); intro _ h₁; replace hF := rl hF h₁; clear h₁))
  exact Goes.stop fun w₃ h₃ => hgo.out _ _ (rl hF h₃) ⟨rfl, rfl, rfl, rfl⟩

set_option maxRecDepth 100000 in
set_option maxHeartbeats 4000000 in
theorem rc_done {Stop : Goroutine → World → Prop} {n : Nat} {U : Array Value} (hU : U17 fc n cc vo n U) (hF : RMp Shun w ys vo w₁)
    (hgo : ∀ w₁, RMp Shun w ys vo w₁ → Stop (G (b₀.at (a₀.put ((ops₀[i₀]?).bind (·.dst)) (vo)) (.inRegion ops₀ rest₀ :: k₀)) cs) w₁) :
    Goes Try.prog true AtRel (SD Shun) Stop 40 (G ((base 17).at ⟨U, []⟩ [.code lp17, .inLoop lp17, .inBlock 0, .code (tl17 3)]) (b₀.at a₀ (.inRegion ops₀ (i₀ :: rest₀) :: k₀) :: cs)) w₁ := by
  have hD : ∀ w, SD Shun w w #[] := sd_idle
  have rl : ∀ {w₁ w₂ : World}, RMp Shun w ys vo w₁ → AtRel w₁ w₂ → RMp Shun w ys vo w₂ := fun h r => RMp.steady.rel h r
  obtain ⟨hs, t0, t5, t6⟩ := hU
  obtain ⟨v0, v1, v2, v3, v4, v5, v6, v7, v8, v9, v10, v11, v12, v13, v14, v15, v16, v17, v18, v19, v20, v21, v22, rfl⟩ := array23 U hs
  simp only [List.getElem?_toArray, List.getElem?_cons_zero, List.getElem?_cons_succ, Option.some.injEq] at t0 t5 t6
  subst t0 t5 t6
  clear hs
  have hlt : decide ((n : Int) < (n : Int)) = false := decide_eq_false (by omega)
  replace hgo := Hd.mk hgo
  simp only [lp17, tl17, cS, cF, cI, body17, Try.f17, Option.getD_some] at hgo ⊢
  repeat ((first | ((with_reducible refine g_opG ?_); (first | ((with_reducible refine g_unw hD (o := ?_) ?_ ?_ (fun _ h₁ => ?_)); rotate_left; (focus exact rfl); (focus exact rfl); replace hF := rl hF h₁; clear h₁; walk_nrm) | (refine Goes.step rfl (fun _ h₁ => ?_); replace hF := rl hF h₁; clear h₁; refine goes_oper_k rfl rfl (by k_ne) (fun K hK => ?_); go_simp; refine hK _ _ ⟨?_, ?_⟩; (focus (refine g_idle hD ?_; intro e he; have hm := mem_listed he; simp [go_sem, *] at hm; done)); clear hK K; try w_num))) | ((with_reducible first | refine g_regE hD ?_ | refine g_seq hD ?_ | refine g_skip hD ?_ | refine g_block hD ?_ | refine g_inBlock hD ?_ | refine g_inLoop hD ?_ | refine g_loop hD ?_ | refine g_ret hD ?_ | refine g_end hD ?_); intro _ h₁; replace hF := rl hF h₁; clear h₁) | ((with_reducible refine g_reg hD (fun _ h₁ => ?_)); replace hF := rl hF h₁; clear h₁; simp only [regN]) | ((with_reducible refine g_exit hD (k' := ?_) ?_ (fun _ h₁ => ?_)); rotate_left; (focus exact rfl); replace hF := rl hF h₁; clear h₁) | ((first | ((with_reducible refine g_ct hD ?_ ?_); (focus exact rfl)) | ((with_reducible refine g_cf hD ?_ ?_); (focus exact rfl))); intro _ h₁; replace hF := rl hF h₁; clear h₁)))
  refine Goes.step rfl fun w₃ h₃ => ?_
  replace hF := rl hF h₃
  clear h₃
  refine goes_leave1 rfl rfl Try.func17 rfl ⟨sd_idle _, ?_⟩
  exact Goes.stop fun w₄ h₄ => hgo.out _ (rl hF h₄)

theorem RMp.form (h : RMp Shun w ys vo w₁) : ∃ fa cap, vo = .slice fa ys.length cap ∧ w₁.ownsRow 0 3 1 (.slice fa ys.length cap) ys.length (ints ys) := by
  have hr := h.row
  rcases hr.2 with ⟨e, h0⟩ | ⟨g, c, cur, e, _⟩
  · refine ⟨none, 0, by rw [h0]; exact e, ?_⟩
    rw [e] at hr
    rw [show Value.slice none ys.length 0 = .slice none 0 0 by rw [h0]]
    exact hr
  · exact ⟨_, c, e, by rw [← e]; exact hr⟩
theorem rc_loop {N0 : Nat} (hc : ∀ c ∈ codes, 0 ≤ c ∧ c < 256) (hL : Ls Shun fc (codesV codes) w) (hlen : codes.length < 900000) (hn : ns.length < 900000) : ∀ (m i : Nat) (U : Array Value) (vo : Value) (w₁ : World), i + m = codes.length → RMp Shun w (chainL (codes.take i) ns) vo w₁ → U17 fc codes.length cc vo i U →
    Lone Try.prog N0 (MapEnd Shun w (chainL codes ns) b₀ a₀ ops₀ i₀ rest₀ k₀ cs) Shun (G ((base 17).at ⟨U, []⟩ [.code lp17, .inLoop lp17, .inBlock 0, .code (tl17 3)]) (b₀.at a₀ (.inRegion ops₀ (i₀ :: rest₀) :: k₀) :: cs)) w₁ := by
  have hlenC : ∀ l : List Int, (chainL l ns).length = ns.length := by
    intro l
    have : ∀ (l : List Int) (ns : List Int), (chainL l ns).length = ns.length := by
      intro l
      induction l with
      | nil => intro ns; rfl
      | cons a l ih => intro ns; show (chainL l (ns.map (applyP a))).length = _; rw [ih]; simp
    exact this l ns
  intro m
  induction m with
  | zero =>
    intro i U vo w₁ hi hF hU
    obtain rfl : i = codes.length := by omega
    rw [List.take_length] at hF
    exact Lone.goes (n := 40) (rc_done hU hF fun w₂ h₂ => ⟨rfl, vo, h₂, rfl⟩)
  | succ m ih =>
    intro i U vo w₁ hi hF hU
    have hlt : i < codes.length := by omega
    have hv : codes[i]? = some codes[i] := List.getElem?_eq_getElem hlt
    refine Lone.on (n := 60) (rc_to hL hlen hv hU hF fun U' w' hF' hU' _ => ?_)
    obtain ⟨fa, cap, rfl, hrow⟩ := hF'.form
    have hls : Ls Shun fa (ints (chainL (codes.take i) ns)) w' := Ls.row hrow (by decide) hF'.keep.s66
    refine (refmap_call (cap := cap) (hc _ (List.getElem_mem hlt)) hF'.keep.s66 hls (by rw [hlenC]; exact hn)).bind fun S g w'' _ h => ?_
    obtain ⟨rfl, vo', hR, rfl⟩ := h
    have hR' : RMp S w (chainL (codes.take (i + 1)) ns) vo' w'' := by
      have e : chainL (codes.take (i + 1)) ns = (chainL (codes.take i) ns).map (applyP codes[i]) := by
        unfold chainL
        rw [List.take_add_one, hv, List.foldl_append]
        rfl
      rw [e]
      exact ⟨hF'.keep.trans hR.keep, hR.row, fun g hg => Nat.le_trans hF'.keep.out.size (hR.rowO g hg)⟩
    exact Lone.on (n := 40) (rc_back (by omega) hU' hR' fun U'' w3 hF3 hU3 _ => ih (i + 1) U'' vo' w3 (by omega) hF3 hU3)

set_option maxRecDepth 100000 in
set_option maxHeartbeats 8000000 in
theorem rc_first {Stop : Goroutine → World → Prop} (h66 : S66 Shun w) (hn : ns.length < 900000) (hL : Ls Shun fa (ints ns) w) (hf : (fa = none ∧ cap = 0 ∧ ns = []) ∨ ∃ bl o, fa = some ⟨bl, o, none⟩ ∧ ¬ Shun bl ∧ bl < w.heap.size) (hF : AtRel w w₁)
    (hgo : ∀ U vo w₁, RMp Shun w ns vo w₁ → U17 fc codes.length cc vo 0 U → Stop (G ((base 17).at ⟨U, []⟩ [.code lp17, .inLoop lp17, .inBlock 0, .code (tl17 3)]) cs) w₁) :
    Goes Try.prog true AtRel (SD Shun) Stop 60 (G ((base 17).at ⟨#[.slice fc codes.length cc, .slice fa ns.length cap, undef, undef, undef, undef, undef, undef, undef, undef, undef, undef, undef, undef, undef, undef, undef, undef, undef, undef, undef, undef, undef], []⟩ [.code body17]) cs) w₁ := by
  have hD : ∀ w, SD Shun w w #[] := sd_idle
  have rl : ∀ {w₁ w₂ : World}, AtRel w w₁ → AtRel w₁ w₂ → AtRel w w₂ := fun h r => AtRel.steady.rel h r
  replace hgo := Hd.mk hgo
  replace hn := Hd.mk hn
  simp only [lp17, tl17, cS, cF, cI, body17, Try.f17, Option.getD_some] at hgo ⊢
  repeat ((first | ((with_reducible first | refine g_regE hD ?_ | refine g_seq hD ?_ | refine g_skip hD ?_ | refine g_block hD ?_ | refine g_inBlock hD ?_ | refine g_inLoop hD ?_ | refine g_loop hD ?_ | refine g_ret hD ?_ | refine g_end hD ?_); intro _ h₁; replace hF := rl hF h₁; clear h₁) | ((with_reducible refine g_reg hD (fun _ h₁ => ?_)); replace hF := rl hF h₁; clear h₁; simp only [regN]) | ((with_reducible refine g_exit hD (k' := ?_) ?_ (fun _ h₁ => ?_)); rotate_left; (focus exact rfl); replace hF := rl hF h₁; clear h₁) | ((first | ((with_reducible refine g_ct hD ?_ ?_); (focus exact rfl)) | ((with_reducible refine g_cf hD ?_ ?_); (focus exact rfl))); intro _ h₁; replace hF := rl hF h₁; clear h₁)))
  (first | ((with_reducible refine g_opG ?_); (first | ((with_reducible refine g_unw hD (o := ?_) ?_ ?_ (fun _ h₁ => ?_)); rotate_left; (focus exact rfl); (focus exact rfl); replace hF := rl hF h₁; clear h₁; walk_nrm) | (refine Goes.step rfl (fun _ h₁ => ?_); replace hF := rl hF h₁; clear h₁; refine goes_oper_k rfl rfl (by k_ne) (fun K hK => ?_); go_simp; refine hK _ _ ⟨?_, ?_⟩; (focus (refine g_idle hD ?_; intro e he; have hm := mem_listed he; simp [go_sem, *] at hm; done)); clear hK K; try w_num))) | ((with_reducible first | refine g_regE hD ?_ | refine g_seq hD ?_ | refine g_skip hD ?_ | refine g_block hD ?_ | refine g_inBlock hD ?_ | refine g_inLoop hD ?_ | refine g_loop hD ?_ | refine g_ret hD ?_ | refine g_end hD ?_); intro _ h₁; replace hF := rl hF h₁; clear h₁) | ((with_reducible refine g_reg hD (fun _ h₁ => ?_)); replace hF := rl hF h₁; clear h₁; simp only [regN]) | ((with_reducible refine g_exit hD (k' := ?_) ?_ (fun _ h₁ => ?_)); rotate_left; (focus exact rfl); replace hF := rl hF h₁; clear h₁) | ((first | ((with_reducible refine g_ct hD ?_ ?_); (focus exact rfl)) | ((with_reducible refine g_cf hD ?_ ?_); (focus exact rfl))); intro _ h₁; replace hF := rl hF h₁; clear h₁))
  repeat ((first | ((with_reducible first | refine g_regE hD ?_ | refine g_seq hD ?_ | refine g_skip hD ?_ | refine g_block hD ?_ | refine g_inBlock hD ?_ | refine g_inLoop hD ?_ | refine g_loop hD ?_ | refine g_ret hD ?_ | refine g_end hD ?_); intro _ h₁; replace hF := rl hF h₁; clear h₁) | ((with_reducible refine g_reg hD (fun _ h₁ => ?_)); replace hF := rl hF h₁; clear h₁; simp only [regN]) | ((with_reducible refine g_exit hD (k' := ?_) ?_ (fun _ h₁ => ?_)); rotate_left; (focus exact rfl); replace hF := rl hF h₁; clear h₁) | ((first | ((with_reducible refine g_ct hD ?_ ?_); (focus exact rfl)) | ((with_reducible refine g_cf hD ?_ ?_); (focus exact rfl))); intro _ h₁; replace hF := rl hF h₁; clear h₁)))
  refine Goes.step rfl fun w₂ h₂ => ?_
  replace hF := rl hF h₂
  clear h₂
  refine goes_oper_k rfl rfl (by decide) (fun K hK => ?_)
  go_simp
  refine hK _ _ ⟨sd_new (by simp) (fun e he => ?_), ?_⟩
  · have hm := mem_listed he
    simp [go_sem] at hm
  clear hK K
  have hrow0 : (w₂.alloc (.cells #[] 3)).ownsRow w.heap.size 3 1 (.slice (some ⟨w₂.heap.size, 0, none⟩) 0 0) 0 [] := by
    obtain ⟨d, rfl⟩ := hF
    exact ⟨rfl, .inr ⟨_, 0, #[], rfl, Nat.le_refl _, heap_alloc_new _ _, Nat.le_refl _, by decide, rfl, rfl⟩⟩
  replace hF := And.intro ((keep_refl_at h66 hF).alloc (.cells #[] 3)) hrow0
  clear hrow0 rl
  generalize w₂.alloc (.cells #[] 3) = w₃ at hF ⊢
  generalize w₂.heap.size = g0 at hF ⊢
  clear w₂
  have rl : ∀ {w₁ w₂ : World}, (Keep Shun w Shun w₁ ∧ w₁.ownsRow w.heap.size 3 1 (.slice (some ⟨g0, 0, none⟩) 0 0) 0 []) → AtRel w₁ w₂ → (Keep Shun w Shun w₂ ∧ w₂.ownsRow w.heap.size 3 1 (.slice (some ⟨g0, 0, none⟩) 0 0) 0 []) := fun h r => by obtain ⟨d, rfl⟩ := r; exact ⟨h.1.at d, h.2⟩
  try walk_nrm
  (first | ((with_reducible refine g_opG ?_); (first | ((with_reducible refine g_unw hD (o := ?_) ?_ ?_ (fun _ h₁ => ?_)); rotate_left; (focus exact rfl); (focus exact rfl); replace hF := rl hF h₁; clear h₁; walk_nrm) | (refine Goes.step rfl (fun _ h₁ => ?_); replace hF := rl hF h₁; clear h₁; refine goes_oper_k rfl rfl (by k_ne) (fun K hK => ?_); go_simp; refine hK _ _ ⟨?_, ?_⟩; (focus (refine g_idle hD ?_; intro e he; have hm := mem_listed he; simp [go_sem, *] at hm; done)); clear hK K; try w_num))) | ((with_reducible first | refine g_regE hD ?_ | refine g_seq hD ?_ | refine g_skip hD ?_ | refine g_block hD ?_ | refine g_inBlock hD ?_ | refine g_inLoop hD ?_ | refine g_loop hD ?_ | refine g_ret hD ?_ | refine g_end hD ?_); intro _ h₁; replace hF := rl hF h₁; clear h₁) | ((with_reducible refine g_reg hD (fun _ h₁ => ?_)); replace hF := rl hF h₁; clear h₁; simp only [regN]) | ((with_reducible refine g_exit hD (k' := ?_) ?_ (fun _ h₁ => ?_)); rotate_left; (focus exact rfl); replace hF := rl hF h₁; clear h₁) | ((first | ((with_reducible refine g_ct hD ?_ ?_); (focus exact rfl)) | ((with_reducible refine g_cf hD ?_ ?_); (focus exact rfl))); intro _ h₁; replace hF := rl hF h₁; clear h₁))
  refine Goes.step rfl fun w₄ h₄ => ?_
  replace hF := rl hF h₄
  clear h₄
  obtain ⟨v', w', hr, hR, hsd⟩ : ∃ v' w', (Builtin.append_ #[22, 22] 22 #[.slice (some ⟨g0, 0, none⟩) 0 0, .slice fa ns.length cap]).run Try.prog w₄ = .ok v' w' ∧ RMp Shun w ns v' w' ∧ ∀ fn, SD Shun w₄ w' (seen Try.prog fn ((Builtin.append_ #[22, 22] 22 #[.slice (some ⟨g0, 0, none⟩) 0 0, .slice fa ns.length cap]).events Try.prog w₄ #[])) := by
    rcases hf with ⟨rfl, rfl, rfl⟩ | ⟨bl, o, rfl, hb1, hb2⟩
    · refine ⟨_, w₄, (append_none oneT22 #[]).1, ⟨hF.1, ⟨rfl, hF.2.2.imp id fun ⟨g, cap, cur, a1, a2, a3⟩ => ⟨g, cap, cur, a1, Nat.zero_le _, a3⟩⟩, fun g hg => (hF.2.lt g hg).1⟩, fun fn => ?_⟩
      rw [show (([] : List Int).length) = 0 from rfl, (append_none (P := Try.prog) (w := w₄) (g := g0) oneT22 #[]).2]
      simpa [seen_none] using sd_idle w₄
    · obtain ⟨v', w', hr, hrow', hgr, hsd⟩ := sd_appends (P := Try.prog) (ty := 22) (cx := cap) oneT22 (m := ns.length) (news := ints ns) hF.2 (by simp) (fun j u hu => by
          obtain ⟨bl', o', e, _, hc⟩ := hL j u hu
          cases e
          exact (hF.1.out.cell bl _ (cell_lt hc) hb1).trans hc) (fun u hu => by
            obtain ⟨n, _, rfl⟩ := List.mem_map.1 hu; rfl) (by have := hn.out; omega) (fun g hg hs => Nat.lt_irrefl _ (Nat.lt_of_lt_of_le (h66.lt hs) (hF.2.lt g hg).1)) ⟨hb1, Nat.lt_of_lt_of_le hb2 hF.1.out.size⟩ hF.1.out.size
      simp only [Nat.zero_add, List.nil_append] at hrow'
      exact ⟨v', w', hr, ⟨hF.1.grown (t := 3) hgr (row0 hF.2) (by decide) (fun g hg => (hF.2.lt g hg).1), row0 hrow', fun g hg => (hrow'.lt g hg).1⟩, hsd⟩
  rw [stepG_value rfl rfl (by decide) (run_append_op _ _ 22 rfl rfl rfl hr)]
  simp only [goes_go]
  refine ⟨?_, ?_⟩
  · unfold listed
    rw [events_append_op _ _ 22 rfl rfl rfl]
    exact hsd _
  clear rl hsd hr hF hf hL hn
  replace hF := hR
  clear hR
  have rl : ∀ {w₁ w₂ : World}, RMp Shun w ns v' w₁ → AtRel w₁ w₂ → RMp Shun w ns v' w₂ := fun h r => RMp.steady.rel h r
  walk_nrm
  repeat ((first | ((with_reducible refine g_opG ?_); (first | ((with_reducible refine g_unw hD (o := ?_) ?_ ?_ (fun _ h₁ => ?_)); rotate_left; (focus exact rfl); (focus exact rfl); replace hF := rl hF h₁; clear h₁; walk_nrm) | (refine Goes.step rfl (fun _ h₁ => ?_); replace hF := rl hF h₁; clear h₁; refine goes_oper_k rfl rfl (by k_ne) (fun K hK => ?_); go_simp; refine hK _ _ ⟨?_, ?_⟩; (focus (refine g_idle hD ?_; intro e he; have hm := mem_listed he; simp [go_sem, *] at hm; done)); clear hK K; try w_num))) | ((with_reducible first | refine g_regE hD ?_ | refine g_seq hD ?_ | refine g_skip hD ?_ | refine g_block hD ?_ | refine g_inBlock hD ?_ | refine g_inLoop hD ?_ | refine g_ret hD ?_ | refine g_end hD ?_); intro _ h₁; replace hF := rl hF h₁; clear h₁) | ((with_reducible refine g_reg hD (fun _ h₁ => ?_)); replace hF := rl hF h₁; clear h₁; simp only [regN]) | ((with_reducible refine g_exit hD (k' := ?_) ?_ (fun _ h₁ => ?_)); rotate_left; (focus exact rfl); replace hF := rl hF h₁; clear h₁) | ((first | ((with_reducible refine g_ct hD ?_ ?_); (focus exact rfl)) | ((with_reducible refine g_cf hD ?_ ?_); (focus exact rfl))); intro _ h₁; replace hF := rl hF h₁; clear h₁)))
  (first | ((with_reducible refine g_opG ?_); (first | ((with_reducible refine g_unw hD (o := ?_) ?_ ?_ (fun _ h₁ => ?_)); rotate_left; (focus exact rfl); (focus exact rfl); replace hF := rl hF h₁; clear h₁; walk_nrm) | (refine Goes.step rfl (fun _ h₁ => ?_); replace hF := rl hF h₁; clear h₁; refine goes_oper_k rfl rfl (by k_ne) (fun K hK => ?_); go_simp; refine hK _ _ ⟨?_, ?_⟩; (focus (refine g_idle hD ?_; intro e he; have hm := mem_listed he; simp [go_sem, *] at hm; done)); clear hK K; try w_num))) | ((with_reducible first | refine g_regE hD ?_ | refine g_seq hD ?_ | refine g_skip hD ?_ | refine g_block hD ?_ | refine g_inBlock hD ?_ | refine g_inLoop hD ?_ | refine g_loop hD ?_ | refine g_ret hD ?_ | refine g_end hD ?_); intro _ h₁; replace hF := rl hF h₁; clear h₁) | ((with_reducible refine g_reg hD (fun _ h₁ => ?_)); replace hF := rl hF h₁; clear h₁; simp only [regN]) | ((with_reducible refine g_exit hD (k' := ?_) ?_ (fun _ h₁ => ?_)); rotate_left; (focus exact rfl); replace hF := rl hF h₁; clear h₁) | ((first | ((with_reducible refine g_ct hD ?_ ?_); (focus exact rfl)) | ((with_reducible refine g_cf hD ?_ ?_); (focus exact rfl))); intro _ h₁; replace hF := rl hF h₁; clear h₁))
  exact Goes.stop fun w₁ h₁ => hgo.out _ _ _ (rl hF h₁) ⟨rfl, rfl, rfl, rfl⟩
/-- A call of the reference's Chain. -/
theorem refchain_call {N0 : Nat} (hc : ∀ c ∈ codes, 0 ≤ c ∧ c < 256) (h66 : S66 Shun w) (hL : Ls Shun fa (ints ns) w) (hLc : Ls Shun fc (codesV codes) w) (hf : (fa = none ∧ cap = 0 ∧ ns = []) ∨ ∃ bl o, fa = some ⟨bl, o, none⟩ ∧ ¬ Shun bl ∧ bl < w.heap.size) (hlen : codes.length < 900000) (hn : ns.length < 900000) :
    Lone Try.prog N0 (MapEnd Shun w (chainL codes ns) b₀ a₀ ops₀ i₀ rest₀ k₀ cs) Shun (G ((base 17).at ⟨#[.slice fc codes.length cc, .slice fa ns.length cap, undef, undef, undef, undef, undef, undef, undef, undef, undef, undef, undef, undef, undef, undef, undef, undef, undef, undef, undef, undef, undef], []⟩ [.code body17]) (b₀.at a₀ (.inRegion ops₀ (i₀ :: rest₀) :: k₀) :: cs)) w :=
  Lone.on (n := 60) (rc_first (codes := codes) h66 hn hL hf ⟨w.drawn, rfl⟩ fun U vo w₁ hF hU _ => rc_loop hc hLc hlen hn codes.length 0 U vo w₁ (by omega) hF hU)
end
end Go.Proofs.Ytblpmdolclalnaa
