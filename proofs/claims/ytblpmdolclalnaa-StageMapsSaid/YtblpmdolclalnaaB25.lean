/- Goroutine 0 alone: the reference's Map. Made by gen_lad.py. Goroutine 0 alone: an append of a whole slice; the reference's Chain. Made by gen_lae.py. Goroutine 0 alone: calls of Map[int,int] and of Chain[int] with the functions function(c) and a list's iterator. Made by gen_laf.py. -/
import Derived.Test.YtblpmdolclalnaaB24
namespace Go.Proofs.Ytblpmdolclalnaa
open Go.Conc Go.RowKit Go.Conc.Lib Go.ConcR.Gen Go.ConcN.Gen

theorem array23 (T : Array Value) (h : T.size = 23) : ∃ v0 v1 v2 v3 v4 v5 v6 v7 v8 v9 v10 v11 v12 v13 v14 v15 v16 v17 v18 v19 v20 v21 v22, T = #[v0, v1, v2, v3, v4, v5, v6, v7, v8, v9, v10, v11, v12, v13, v14, v15, v16, v17, v18, v19, v20, v21, v22] := by
  obtain ⟨l⟩ := T
  match l, h with
  | [v0, v1, v2, v3, v4, v5, v6, v7, v8, v9, v10, v11, v12, v13, v14, v15, v16, v17, v18, v19, v20, v21, v22], _ => exact ⟨v0, v1, v2, v3, v4, v5, v6, v7, v8, v9, v10, v11, v12, v13, v14, v15, v16, v17, v18, v19, v20, v21, v22, rfl⟩

noncomputable def body15 : Code := Try.f15.body.getD .skip
noncomputable def tl15 : Nat → Code | 0 => body15 | n + 1 => cS (tl15 n)
noncomputable def lp15 : Code := cI (cI (cS (cF (tl15 2))))
structure U15 (fa : Option Addr) (n cap : Nat) (c : Int) (vo : Value) (i : Nat) (U : Array Value) : Prop where
  size : U.size = 23
  t0 : U[0]? = some (.int .u8 c)
  t1 : U[1]? = some (.slice fa n cap)
  t5 : U[5]? = some vo
  t6 : U[6]? = some (.int .i64 i)
/-- What is known in the loop: the values so far. -/
structure RMp (Shun : Nat → Prop) (w : World) (ys : List Int) (vo : Value) (w₁ : World) : Prop where
  keep : Keep Shun w Shun w₁
  row : w₁.ownsRow 0 3 1 vo ys.length (ints ys)
  rowO : ∀ g, vo.ownBlock = some g → w.heap.size ≤ g
structure RMx (Shun : Nat → Prop) (w : World) (ys : List Int) (vo : Value) (bx : Nat) (y : Int) (w₁ : World) : Prop where
  j : RMp Shun w ys vo w₁
  cell : w₁.cell? ⟨bx, 0, none⟩ = some (.int .i64 y)
  low : ¬ Shun bx
section
variable {Shun : Nat → Prop} {w w₁ w₂ : World} {b₀ : Frame} {a₀ : Act} {ops₀ : Array Oper} {i₀ : Nat} {rest₀ : List Nat} {k₀ : List Item} {cs : List Frame} {fa : Option Addr} {cap i bx : Nat} {ns ys : List Int} {x y c : Int} {vo : Value}
theorem RMp.steady : Steady (RMp Shun w ys vo) := fun _w d h => ⟨h.keep.at d, h.row, h.rowO⟩
theorem RMx.steady : Steady (RMx Shun w ys vo bx y) := fun w d h => ⟨RMp.steady w d h.j, h.cell, h.low⟩
theorem RMx.new (h : RMp Shun w ys vo w₁) : RMx Shun w ys vo w₁.heap.size y (w₁.alloc (.cells #[.int .i64 y] 3)) := by
  have hn := heap_alloc_new w₁ (Obj.cells #[Value.int .i64 y] 3)
  exact ⟨⟨h.keep.alloc _, ownsRow_of h.row fun g hg => heap_alloc_old _ _ g (h.row.lt g hg).2, h.rowO⟩, by unfold World.cell?; rw [hn]; rfl, fun hs => Nat.lt_irrefl _ (h.keep.s66.lt hs)⟩
theorem RMx.appended {vo' : Value} (h : RMx Shun w ys vo bx y w₁) (hgr : w₁.grownBy w₂ vo.ownBlock) (hrow : w₂.ownsRow 0 3 1 vo' (ys.length + 1) (ints ys ++ [.int .i64 y])) (hown : ∀ g, vo'.ownBlock = some g → vo.ownBlock = some g ∨ (w₁.heap.size ≤ g ∧ g < w₂.heap.size)) : RMp Shun w (ys ++ [y]) vo' w₂ := by
  refine ⟨h.j.keep.grown hgr h.j.row (by decide) h.j.rowO, by simpa using hrow, fun g hg => ?_⟩
  rcases hown g hg with e | e
  · exact h.j.rowO g e
  · exact Nat.le_trans h.j.keep.out.size e.1
theorem row_not (hr : w₁.ownsRow 0 3 1 vo ys.length (ints ys)) (h66 : S66 Shun w₁) : ∀ g, vo.ownBlock = some g → ¬ Shun g := fun g hg hs => by
  obtain ⟨cs, hc⟩ := row_tp hr hg
  obtain ⟨cs', hc'⟩ := h66 g hs
  rw [hc] at hc'
  cases hc'

set_option maxRecDepth 100000 in
set_option maxHeartbeats 8000000 in
theorem rm_round {Stop : Goroutine → World → Prop} (hc : 0 ≤ c ∧ c < 256) (hL : Ls Shun fa (ints ns) w) (hlen : ns.length < 900000) (hys : ys.length = i) (hx : ns[i]? = some x) {U : Array Value} (hU : U15 fa ns.length cap c vo i U) (hF : RMp Shun w ys vo w₁)
    (hgo : ∀ U vo' w₁, RMp Shun w (ys ++ [applyP c x]) vo' w₁ → U15 fa ns.length cap c vo' (i + 1) U → Stop (G ((base 15).at ⟨U, []⟩ [.code lp15, .inLoop lp15, .inBlock 0, .code (tl15 3)]) cs) w₁) :
    Goes Try.prog true AtRel (SD Shun) Stop 120 (G ((base 15).at ⟨U, []⟩ [.code lp15, .inLoop lp15, .inBlock 0, .code (tl15 3)]) cs) w₁ := by
  have hD : ∀ w, SD Shun w w #[] := sd_idle
  have rl : ∀ {w₁ w₂ : World}, RMp Shun w ys vo w₁ → AtRel w₁ w₂ → RMp Shun w ys vo w₂ := fun h r => RMp.steady.rel h r
  obtain ⟨hs, t0, t1, t5, t6⟩ := hU
  obtain ⟨v0, v1, v2, v3, v4, v5, v6, v7, v8, v9, v10, v11, v12, v13, v14, v15, v16, v17, v18, v19, v20, v21, v22, rfl⟩ := array23 U hs
  simp only [List.getElem?_toArray, List.getElem?_cons_zero, List.getElem?_cons_succ, Option.some.injEq] at t0 t1 t5 t6
  subst t0 t1 t5 t6
  clear hs
  have hi : i < ns.length := (List.getElem?_eq_some_iff.1 hx).1
  have hlt : decide ((i : Int) < (ns.length : Int)) = true := decide_eq_true (by omega)
  have hadd : IntKind.i64.wrap ((i : Int) + 1) = ((i + 1 : Nat) : Int) := by rw [IntKind.wrap_i64]; omega
  obtain ⟨bl, o, rfl, hsb, hcl⟩ := hL i (.int .i64 x) (by rw [List.getElem?_map, hx]; rfl)
  have hcell : ∀ w₁, Keep Shun w Shun w₁ → w₁.cell? ⟨bl, o + i, none⟩ = some (.int .i64 x) := fun w₁ h => (h.out.cell bl _ (cell_lt hcl) hsb).trans hcl
  replace hlen := Hd.mk hlen
  replace hgo := Hd.mk hgo
  replace hys := Hd.mk hys
  clear hL hcl hx
  simp only [lp15, tl15, cS, cF, cI, body15, Try.f15, Option.getD_some] at hgo ⊢
  repeat ((first | ((with_reducible refine g_opG ?_); (first | ((with_reducible refine g_unw hD (o := ?_) ?_ ?_ (fun _ h₁ => ?_)); rotate_left; (focus exact rfl); (focus exact rfl); replace hF := rl hF h₁; clear h₁; walk_nrm) | (refine Goes.step rfl (fun _ h₁ => ?_); replace hF := rl hF h₁; clear h₁; refine goes_oper_k rfl rfl (by k_ne) (fun K hK => ?_); go_simp; refine hK _ _ ⟨?_, ?_⟩; (focus (refine g_idle hD ?_; intro e he; have hm := mem_listed he; simp [go_sem, *] at hm; done)); clear hK K; try w_num))) | ((with_reducible first | refine g_regE hD ?_ | refine g_seq hD ?_ | refine g_skip hD ?_ | refine g_block hD ?_ | refine g_inBlock hD ?_ | refine g_inLoop hD ?_ | refine g_loop hD ?_ | refine g_ret hD ?_ | refine g_end hD ?_); intro _ h₁; replace hF := rl hF h₁; clear h₁) | ((with_reducible refine g_reg hD (fun _ h₁ => ?_)); replace hF := rl hF h₁; clear h₁; simp only [regN]) | ((with_reducible refine g_exit hD (k' := ?_) ?_ (fun _ h₁ => ?_)); rotate_left; (focus exact rfl); replace hF := rl hF h₁; clear h₁) | ((first | ((with_reducible refine g_ct hD ?_ ?_); (focus exact rfl)) | ((with_reducible refine g_cf hD ?_ ?_); (focus exact rfl))); intro _ h₁; replace hF := rl hF h₁; clear h₁)))
  refine Goes.step rfl fun w₂ h₂ => ?_
  replace hF := rl hF h₂
  clear h₂
  refine goes_oper_k rfl rfl (by decide) (fun K hK => ?_)
  have h1 := hcell _ hF.keep
  go_simp
  refine hK _ _ ⟨sd_read fun e he => ?_, ?_⟩
  · have hm := mem_listed he
    simp [go_sem, h1] at hm
    exact ⟨_, _, _, hm, hsb, cell_lt h1⟩
  clear hK K h1
  try walk_nrm
  -- Apply
  have key : ∀ (r : Int) (w₁ : World), RMp Shun w ys v5 w₁ → r = applyP c x → Goes Try.prog true AtRel (SD Shun) Stop 40 (G ((base 15).at ⟨#[.int .u8 c, .slice (some ⟨bl, o, none⟩) ns.length cap, v2, v3, v4, v5, .int .i64 i, .int .i64 i, .slice (some ⟨bl, o, none⟩) ns.length cap, .int .i64 ns.length, .bool true, v11, v12, v5, .int .u8 c, .slice (some ⟨bl, o, none⟩) ns.length cap, .int .i64 i, .pointer (some ⟨bl, o + i, none⟩), .int .i64 x, .int .i64 r, v20, v21, v22], []⟩ (.inRegion (cO (cI (cF (cS lp15)))) [7, 8, 9] :: [.inBlock 1, .code (cS (cS lp15)), .inLoop lp15, .inBlock 0, .code (tl15 3)])) cs) w₁ := by
    intro r w₁ hF hr
    subst hr
    simp only [lp15, tl15, cS, cF, cI, cO, body15, Try.f15, Option.getD_some]
    refine Goes.step rfl fun w₂ h₂ => ?_
    replace hF := rl hF h₂
    clear h₂
    refine goes_oper_k rfl rfl (by decide) (fun K hK => ?_)
    go_simp
    refine hK _ _ ⟨sd_new (by simp) (fun e he => ?_), ?_⟩
    · have hm := mem_listed he
      simp [go_sem] at hm
    clear hK K
    replace hF := RMx.new (y := applyP c x) hF
    generalize w₂.alloc (.cells #[.int .i64 (applyP c x)] 3) = w₃ at hF ⊢
    generalize w₂.heap.size = bx at hF ⊢
    clear w₂
    try walk_nrm
    refine Goes.step rfl fun w₄ h₄ => ?_
    replace hF := RMx.steady.rel hF h₄
    clear h₄
    obtain ⟨v', w', hr, hrow', hgr, hb', hsd⟩ := sd_append (P := Try.prog) (ty := 22) (cx := 1) oneT22 hF.j.row hF.cell rfl (by rw [hys.out]; have := hlen.out; omega) (row_not hF.j.row hF.j.keep.s66) hF.low (fun b hb => hF.j.keep.s66.lt hb)
    rw [stepG_value rfl rfl (by decide) (run_append_op _ _ 22 rfl rfl rfl hr)]
    simp only [goes_go]
    refine ⟨?_, ?_⟩
    · unfold listed
      rw [events_append_op _ _ 22 rfl rfl rfl]
      exact hsd _
    replace hF := hF.appended hgr hrow' hb'
    clear hsd hr hgr hb' hrow' w₄ rl
    have rl : ∀ {w₁ w₂ : World}, RMp Shun w (ys ++ [applyP c x]) v' w₁ → AtRel w₁ w₂ → RMp Shun w (ys ++ [applyP c x]) v' w₂ := fun h r => RMp.steady.rel h r
    walk_nrm
    repeat ((first | ((with_reducible refine g_opG ?_); (first | ((with_reducible refine g_unw hD (o := ?_) ?_ ?_ (fun _ h₁ => ?_)); rotate_left; (focus exact rfl); (focus exact rfl); replace hF := rl hF h₁; clear h₁; walk_nrm) | (refine Goes.step rfl (fun _ h₁ => ?_); replace hF := rl hF h₁; clear h₁; refine goes_oper_k rfl rfl (by k_ne) (fun K hK => ?_); go_simp; refine hK _ _ ⟨?_, ?_⟩; (focus (refine g_idle hD ?_; intro e he; have hm := mem_listed he; simp [go_sem, *] at hm; done)); clear hK K; try w_num))) | ((with_reducible first | refine g_regE hD ?_ | refine g_seq hD ?_ | refine g_skip hD ?_ | refine g_block hD ?_ | refine g_inBlock hD ?_ | refine g_loop hD ?_ | refine g_ret hD ?_ | refine g_end hD ?_); intro _ h₁; replace hF := rl hF h₁; clear h₁) | ((with_reducible refine g_reg hD (fun _ h₁ => ?_)); replace hF := rl hF h₁; clear h₁; simp only [regN]) | ((with_reducible refine g_exit hD (k' := ?_) ?_ (fun _ h₁ => ?_)); rotate_left; (focus exact rfl); replace hF := rl hF h₁; clear h₁) | ((first | ((with_reducible refine g_ct hD ?_ ?_); (focus exact rfl)) | ((with_reducible refine g_cf hD ?_ ?_); (focus exact rfl))); intro _ h₁; replace hF := rl hF h₁; clear h₁)))
    (first | ((with_reducible refine g_opG ?_); (first | ((with_reducible refine g_unw hD (o := ?_) ?_ ?_ (fun _ h₁ => ?_)); rotate_left; (focus exact rfl); (focus exact rfl); replace hF := rl hF h₁; clear h₁; walk_nrm) | (refine Goes.step rfl (fun _ h₁ => ?_); replace hF := rl hF h₁; clear h₁; refine goes_oper_k rfl rfl (by k_ne) (fun K hK => ?_); go_simp; refine hK _ _ ⟨?_, ?_⟩; (focus (refine g_idle hD ?_; intro e he; have hm := mem_listed he; simp [go_sem, *] at hm; done)); clear hK K; try w_num))) | ((with_reducible first | refine g_regE hD ?_ | refine g_seq hD ?_ | refine g_skip hD ?_ | refine g_block hD ?_ | refine g_inBlock hD ?_ | refine g_inLoop hD ?_ | refine g_loop hD ?_ | refine g_ret hD ?_ | refine g_end hD ?_); intro _ h₁; replace hF := rl hF h₁; clear h₁) | ((with_reducible refine g_reg hD (fun _ h₁ => ?_)); replace hF := rl hF h₁; clear h₁; simp only [regN]) | ((with_reducible refine g_exit hD (k' := ?_) ?_ (fun _ h₁ => ?_)); rotate_left; (focus exact rfl); replace hF := rl hF h₁; clear h₁) | ((first | ((with_reducible refine g_ct hD ?_ ?_); (focus exact rfl)) | ((with_reducible refine g_cf hD ?_ ?_); (focus exact rfl))); intro _ h₁; replace hF := rl hF h₁; clear h₁))
    exact Goes.stop fun w₁ h₁ => hgo.out _ _ _ (rl hF h₁) ⟨rfl, rfl, rfl, rfl, rfl⟩
  replace key := Hd.mk key
  simp only [lp15, tl15, cS, cF, cI, cO, body15, Try.f15, Option.getD_some] at key
  ((with_reducible refine g_opG ?_); refine Goes.step rfl (fun _ h₁ => ?_); replace hF := rl hF h₁; clear h₁; refine goes_call rfl rfl (by k_ne) rfl Try.func31 rfl rfl ⟨by exact (g_idle hD (fun e he => by simp at he)), ?_⟩; walk_nrmf Try.f31)
  repeat ((first | ((with_reducible refine g_opG ?_); (first | ((with_reducible refine g_unw hD (o := ?_) ?_ ?_ (fun _ h₁ => ?_)); rotate_left; (focus exact rfl); (focus exact rfl); replace hF := rl hF h₁; clear h₁; walk_nrm) | (refine Goes.step rfl (fun _ h₁ => ?_); replace hF := rl hF h₁; clear h₁; refine goes_oper_k rfl rfl (by k_ne) (fun K hK => ?_); go_simp; refine hK _ _ ⟨?_, ?_⟩; (focus (refine g_idle hD ?_; intro e he; have hm := mem_listed he; simp [go_sem, *] at hm; done)); clear hK K; try w_num))) | ((with_reducible first | refine g_regE hD ?_ | refine g_seq hD ?_ | refine g_skip hD ?_ | refine g_block hD ?_ | refine g_inBlock hD ?_ | refine g_inLoop hD ?_ | refine g_loop hD ?_ | refine g_ret hD ?_ | refine g_end hD ?_); intro _ h₁; replace hF := rl hF h₁; clear h₁) | ((with_reducible refine g_reg hD (fun _ h₁ => ?_)); replace hF := rl hF h₁; clear h₁; simp only [regN]) | ((with_reducible refine g_exit hD (k' := ?_) ?_ (fun _ h₁ => ?_)); rotate_left; (focus exact rfl); replace hF := rl hF h₁; clear h₁) | ((first | ((with_reducible refine g_ct hD ?_ ?_); (focus exact rfl)) | ((with_reducible refine g_cf hD ?_ ?_); (focus exact rfl))); intro _ h₁; replace hF := rl hF h₁; clear h₁)))
  have hm : c.tmod 5 = 0 ∨ c.tmod 5 = 1 ∨ c.tmod 5 = 2 ∨ c.tmod 5 = 3 ∨ c.tmod 5 = 4 := by rw [Int.tmod_eq_emod_of_nonneg hc.1]; omega
  rcases hm with hm | hm | hm | hm | hm <;> simp only [hm]
  all_goals
    repeat (first | (first | ((with_reducible refine g_opG ?_); (first | ((with_reducible refine g_unw hD (o := ?_) ?_ ?_ (fun _ h₁ => ?_)); rotate_left; (focus exact rfl); (focus exact rfl); replace hF := rl hF h₁; clear h₁; walk_nrm) | (refine Goes.step rfl (fun _ h₁ => ?_); replace hF := rl hF h₁; clear h₁; refine goes_oper_k rfl rfl (by k_ne) (fun K hK => ?_); go_simp; refine hK _ _ ⟨?_, ?_⟩; (focus (refine g_idle hD ?_; intro e he; have hm := mem_listed he; simp [go_sem, *] at hm; done)); clear hK K; try w_num))) | ((with_reducible first | refine g_regE hD ?_ | refine g_seq hD ?_ | refine g_skip hD ?_ | refine g_block hD ?_ | refine g_inBlock hD ?_ | refine g_inLoop hD ?_ | refine g_loop hD ?_ | refine g_ret hD ?_ | refine g_end hD ?_); intro _ h₁; replace hF := rl hF h₁; clear h₁) | ((with_reducible refine g_reg hD (fun _ h₁ => ?_)); replace hF := rl hF h₁; clear h₁; simp only [regN]) | ((with_reducible refine g_exit hD (k' := ?_) ?_ (fun _ h₁ => ?_)); rotate_left; (focus exact rfl); replace hF := rl hF h₁; clear h₁) | ((first | ((with_reducible refine g_ct hD ?_ ?_); (focus exact rfl)) | ((with_reducible refine g_cf hD ?_ ?_); (focus exact rfl))); intro _ h₁; replace hF := rl hF h₁; clear h₁) | ((with_reducible refine g_lvG ?_); refine Goes.step rfl (fun _ h₁ => ?_); replace hF := rl hF h₁; clear h₁; refine goes_leave1 rfl rfl Try.func31 rfl ⟨by exact (g_idle hD (fun e he => by simp at he)), ?_⟩; walk_nrm)))
    exact Goes.mono (n := 40) (key.out _ _ hF (by simp only [applyP, hm]; rfl)) (by decide)


set_option maxRecDepth 100000 in
set_option maxHeartbeats 4000000 in
theorem rm_first {Stop : Goroutine → World → Prop} {n : Nat} (h66 : S66 Shun w) (hF : AtRel w w₁)
    (hgo : ∀ U w₁, RMp Shun w [] (.slice none 0 0) w₁ → U15 fa n cap c (.slice none 0 0) 0 U → Stop (G ((base 15).at ⟨U, []⟩ [.code lp15, .inLoop lp15, .inBlock 0, .code (tl15 3)]) cs) w₁) :
    Goes Try.prog true AtRel (SD Shun) Stop 40 (G ((base 15).at ⟨#[.int .u8 c, .slice fa n cap, undef, undef, undef, undef, undef, undef, undef, undef, undef, undef, undef, undef, undef, undef, undef, undef, undef, undef, undef, undef, undef], []⟩ [.code body15]) cs) w₁ := by
  have hD : ∀ w, SD Shun w w #[] := sd_idle
  have rl : ∀ {w₁ w₂ : World}, AtRel w w₁ → AtRel w₁ w₂ → AtRel w w₂ := fun h r => AtRel.steady.rel h r
  replace hgo := Hd.mk hgo
  simp only [lp15, tl15, cS, cF, cI, body15, Try.f15, Option.getD_some] at hgo ⊢
  repeat ((first | ((with_reducible refine g_opG ?_); (first | ((with_reducible refine g_unw hD (o := ?_) ?_ ?_ (fun _ h₁ => ?_)); rotate_left; (focus exact rfl); (focus exact rfl); replace hF := rl hF h₁; clear h₁; walk_nrm) | (refine Goes.step rfl (fun _ h₁ => ?_); replace hF := rl hF h₁; clear h₁; refine goes_oper_k rfl rfl (by k_ne) (fun K hK => ?_); go_simp; refine hK _ _ ⟨?_, ?_⟩; (focus (refine g_idle hD ?_; intro e he; have hm := mem_listed he; simp [go_sem, *] at hm; done)); clear hK K; try w_num))) | ((with_reducible first | refine g_regE hD ?_ | refine g_seq hD ?_ | refine g_skip hD ?_ | refine g_block hD ?_ | refine g_inBlock hD ?_ | refine g_inLoop hD ?_ | refine g_ret hD ?_ | refine g_end hD ?_); intro _ h₁; replace hF := rl hF h₁; clear h₁) | ((with_reducible refine g_reg hD (fun _ h₁ => ?_)); replace hF := rl hF h₁; clear h₁; simp only [regN]) | ((with_reducible refine g_exit hD (k' := ?_) ?_ (fun _ h₁ => ?_)); rotate_left; (focus exact rfl); replace hF := rl hF h₁; clear h₁) | ((first | ((with_reducible refine g_ct hD ?_ ?_); (focus exact rfl)) | ((with_reducible refine g_cf hD ?_ ?_); (focus exact rfl))); intro _ h₁; replace hF := rl hF h₁; clear h₁)))
  (first | ((with_reducible refine g_opG ?_); (first | ((with_reducible refine g_unw hD (o := ?_) ?_ ?_ (fun _ h₁ => ?_)); rotate_left; (focus exact rfl); (focus exact rfl); replace hF := rl hF h₁; clear h₁; walk_nrm) | (refine Goes.step rfl (fun _ h₁ => ?_); replace hF := rl hF h₁; clear h₁; refine goes_oper_k rfl rfl (by k_ne) (fun K hK => ?_); go_simp; refine hK _ _ ⟨?_, ?_⟩; (focus (refine g_idle hD ?_; intro e he; have hm := mem_listed he; simp [go_sem, *] at hm; done)); clear hK K; try w_num))) | ((with_reducible first | refine g_regE hD ?_ | refine g_seq hD ?_ | refine g_skip hD ?_ | refine g_block hD ?_ | refine g_inBlock hD ?_ | refine g_inLoop hD ?_ | refine g_loop hD ?_ | refine g_ret hD ?_ | refine g_end hD ?_); intro _ h₁; replace hF := rl hF h₁; clear h₁) | ((with_reducible refine g_reg hD (fun _ h₁ => ?_)); replace hF := rl hF h₁; clear h₁; simp only [regN]) | ((with_reducible refine g_exit hD (k' := ?_) ?_ (fun _ h₁ => ?_)); rotate_left; (focus exact rfl); replace hF := rl hF h₁; clear h₁) | ((first | ((with_reducible refine g_ct hD ?_ ?_); (focus exact rfl)) | ((with_reducible refine g_cf hD ?_ ?_); (focus exact rfl))); intro _ h₁; replace hF := rl hF h₁; clear h₁))
  exact Goes.stop fun w₄ h₄ => hgo.out _ _ ⟨keep_refl_at h66 (rl hF h₄), ⟨rfl, .inl ⟨rfl, rfl⟩⟩, fun g hg => by cases hg⟩ ⟨rfl, rfl, rfl, rfl, rfl⟩

set_option maxRecDepth 100000 in
set_option maxHeartbeats 4000000 in
theorem rm_done {Stop : Goroutine → World → Prop} {n : Nat} {U : Array Value} (hU : U15 fa n cap c vo n U) (hF : RMp Shun w ys vo w₁)
    (hgo : ∀ w₁, RMp Shun w ys vo w₁ → Stop (G (b₀.at (a₀.put ((ops₀[i₀]?).bind (·.dst)) (vo)) (.inRegion ops₀ rest₀ :: k₀)) cs) w₁) :
    Goes Try.prog true AtRel (SD Shun) Stop 40 (G ((base 15).at ⟨U, []⟩ [.code lp15, .inLoop lp15, .inBlock 0, .code (tl15 3)]) (b₀.at a₀ (.inRegion ops₀ (i₀ :: rest₀) :: k₀) :: cs)) w₁ := by
  have hD : ∀ w, SD Shun w w #[] := sd_idle
  have rl : ∀ {w₁ w₂ : World}, RMp Shun w ys vo w₁ → AtRel w₁ w₂ → RMp Shun w ys vo w₂ := fun h r => RMp.steady.rel h r
  obtain ⟨hs, t0, t1, t5, t6⟩ := hU
  obtain ⟨v0, v1, v2, v3, v4, v5, v6, v7, v8, v9, v10, v11, v12, v13, v14, v15, v16, v17, v18, v19, v20, v21, v22, rfl⟩ := array23 U hs
  simp only [List.getElem?_toArray, List.getElem?_cons_zero, List.getElem?_cons_succ, Option.some.injEq] at t0 t1 t5 t6
  subst t0 t1 t5 t6
  clear hs
  have hlt : decide ((n : Int) < (n : Int)) = false := decide_eq_false (by omega)
  replace hgo := Hd.mk hgo
  simp only [lp15, tl15, cS, cF, cI, body15, Try.f15, Option.getD_some] at hgo ⊢
  repeat ((first | ((with_reducible refine g_opG ?_); (first | ((with_reducible refine g_unw hD (o := ?_) ?_ ?_ (fun _ h₁ => ?_)); rotate_left; (focus exact rfl); (focus exact rfl); replace hF := rl hF h₁; clear h₁; walk_nrm) | (refine Goes.step rfl (fun _ h₁ => ?_); replace hF := rl hF h₁; clear h₁; refine goes_oper_k rfl rfl (by k_ne) (fun K hK => ?_); go_simp; refine hK _ _ ⟨?_, ?_⟩; (focus (refine g_idle hD ?_; intro e he; have hm := mem_listed he; simp [go_sem, *] at hm; done)); clear hK K; try w_num))) | ((with_reducible first | refine g_regE hD ?_ | refine g_seq hD ?_ | refine g_skip hD ?_ | refine g_block hD ?_ | refine g_inBlock hD ?_ | refine g_inLoop hD ?_ | refine g_loop hD ?_ | refine g_ret hD ?_ | refine g_end hD ?_); intro _ h₁; replace hF := rl hF h₁; clear h₁) | ((with_reducible refine g_reg hD (fun _ h₁ => ?_)); replace hF := rl hF h₁; clear h₁; simp only [regN]) | ((with_reducible refine g_exit hD (k' := ?_) ?_ (fun _ h₁ => ?_)); rotate_left; (focus exact rfl); replace hF := rl hF h₁; clear h₁) | ((first | ((with_reducible refine g_ct hD ?_ ?_); (focus exact rfl)) | ((with_reducible refine g_cf hD ?_ ?_); (focus exact rfl))); intro _ h₁; replace hF := rl hF h₁; clear h₁)))
  refine Goes.step rfl fun w₃ h₃ => ?_
  replace hF := rl hF h₃
  clear h₃
  refine goes_leave1 rfl rfl Try.func15 rfl ⟨sd_idle _, ?_⟩
  exact Goes.stop fun w₄ h₄ => hgo.out _ (rl hF h₄)

/-- What a function of the reference leaves: a slice of its own. -/
def MapEnd (Shun : Nat → Prop) (w : World) (ys : List Int) (b₀ : Frame) (a₀ : Act) (ops₀ : Array Oper) (i₀ : Nat) (rest₀ : List Nat) (k₀ : List Item) (cs : List Frame) (S : Nat → Prop) (g : Goroutine) (w' : World) : Prop :=
  S = Shun ∧ ∃ vo, RMp Shun w ys vo w' ∧ g = G (b₀.at (a₀.put ((ops₀[i₀]?).bind (·.dst)) (vo)) (.inRegion ops₀ rest₀ :: k₀)) cs
theorem rm_loop {N0 : Nat} (hc : 0 ≤ c ∧ c < 256) (hL : Ls Shun fa (ints ns) w) (hlen : ns.length < 900000) : ∀ (m i : Nat) (U : Array Value) (vo : Value) (w₁ : World), i + m = ns.length → RMp Shun w ((ns.take i).map (applyP c)) vo w₁ → U15 fa ns.length cap c vo i U →
    Lone Try.prog N0 (MapEnd Shun w (ns.map (applyP c)) b₀ a₀ ops₀ i₀ rest₀ k₀ cs) Shun (G ((base 15).at ⟨U, []⟩ [.code lp15, .inLoop lp15, .inBlock 0, .code (tl15 3)]) (b₀.at a₀ (.inRegion ops₀ (i₀ :: rest₀) :: k₀) :: cs)) w₁ := by
  intro m
  induction m with
  | zero =>
    intro i U vo w₁ hi hF hU
    obtain rfl : i = ns.length := by omega
    rw [List.take_length] at hF
    exact Lone.goes (n := 40) (rm_done hU hF fun w₂ h₂ => ⟨rfl, vo, h₂, rfl⟩)
  | succ m ih =>
    intro i U vo w₁ hi hF hU
    have hlt : i < ns.length := by omega
    have hv : ns[i]? = some ns[i] := List.getElem?_eq_getElem hlt
    refine Lone.on (n := 120) (rm_round hc hL hlen (by simp; omega) hv hU hF fun U' vo' w' hF' hU' _ => ?_)
    refine ih (i + 1) U' vo' w' (by omega) ?_ hU'
    have e : (ns.take (i + 1)).map (applyP c) = (ns.take i).map (applyP c) ++ [applyP c ns[i]] := by
      rw [List.take_add_one, hv, List.map_append]; rfl
    rw [e]; exact hF'
/-- A call of the reference's Map. -/
theorem refmap_call {N0 : Nat} (hc : 0 ≤ c ∧ c < 256) (h66 : S66 Shun w) (hL : Ls Shun fa (ints ns) w) (hlen : ns.length < 900000) :
    Lone Try.prog N0 (MapEnd Shun w (ns.map (applyP c)) b₀ a₀ ops₀ i₀ rest₀ k₀ cs) Shun (G ((base 15).at ⟨#[.int .u8 c, .slice fa ns.length cap, undef, undef, undef, undef, undef, undef, undef, undef, undef, undef, undef, undef, undef, undef, undef, undef, undef, undef, undef, undef, undef], []⟩ [.code body15]) (b₀.at a₀ (.inRegion ops₀ (i₀ :: rest₀) :: k₀) :: cs)) w :=
  Lone.on (n := 40) (rm_first h66 ⟨w.drawn, rfl⟩ fun U w₁ hF hU _ => rm_loop hc hL hlen ns.length 0 U _ w₁ (by omega) hF hU)
end
end Go.Proofs.Ytblpmdolclalnaa

namespace Go.Proofs.Ytblpmdolclalnaa
open Go.Conc Go.RowKit Go.Conc.Lib Go.ConcR.Gen Go.ConcN.Gen

/-- The functions one behind the other. -/
def chainL (codes ns : List Int) : List Int := codes.foldl (fun l c => l.map (applyP c)) ns
structure U17 (fc : Option Addr) (nc cc : Nat) (vo : Value) (i : Nat) (U : Array Value) : Prop where
  size : U.size = 23
  t0 : U[0]? = some (.slice fc nc cc)
  t5 : U[5]? = some vo
  t6 : U[6]? = some (.int .i64 i)
section
variable {Shun : Nat → Prop} {w w₁ w₂ : World} {b₀ : Frame} {a₀ : Act} {ops₀ : Array Oper} {i₀ : Nat} {rest₀ : List Nat} {k₀ : List Item} {cs : List Frame} {fa fc : Option Addr} {cap cc i bx : Nat} {ns ys codes : List Int} {x y c : Int} {vo : Value}

theorem RMp.form (h : RMp Shun w ys vo w₁) : ∃ fa cap, vo = .slice fa ys.length cap ∧ w₁.ownsRow 0 3 1 (.slice fa ys.length cap) ys.length (ints ys) := by
  have hr := h.row
  rcases hr.2 with ⟨e, h0⟩ | ⟨g, c, cur, e, _⟩
  · refine ⟨none, 0, by rw [h0]; exact e, ?_⟩
    rw [e] at hr
    rw [show Value.slice none ys.length 0 = .slice none 0 0 by rw [h0]]
    exact hr
  · exact ⟨_, c, e, by rw [← e]; exact hr⟩
end
end Go.Proofs.Ytblpmdolclalnaa

namespace Go.Proofs.Ytblpmdolclalnaa
open Go.Conc
open Go.ConcN (WgLive)

section
variable {Shun : Nat → Prop} {w w₁ : World} {b₀ : Frame} {a₀ : Act} {ops₀ : Array Oper} {i₀ : Nat} {rest₀ : List Nat} {k₀ : List Item} {cs : List Frame} {fa : Option Addr} {cap kb kl K : Nat} {ns : List Int} {c : Int}
theorem boxA_firm {own : Nat → Prop} {Got : Cells} {Rd : Nat → Prop} {Wg : Nat} (h : Rd kb) : Firm own Got Rd Wg (BoxA kb c) := fun _w _w₁ r hb => (r.cell kb 0 (cell_lt hb) (.inr (.inr h))).trans hb
theorem s66_of {S : Nat → Prop} {Wg : Nat} (h66 : S66 Shun w) (ho : Out w.heap.size w (fun b _ => Shun b) w₁) (hl : WgLive 66 Wg w₁) (hs : ∀ b, S b → Shun b ∨ b = Wg) : S66 S w₁ := fun b hb => by
  rcases hs b hb with x | rfl
  · obtain ⟨cs, hc⟩ := h66 b x
    obtain ⟨c', hc', _⟩ := ho.form b cs 66 (0, 0) (h66.lt x) hc
    exact ⟨c', hc'⟩
  · obtain ⟨st, sm, hl⟩ := hl
    exact ⟨_, hl⟩
/-- The data of a call of Map. -/
def mapM (Shun : Nat → Prop) (w : World) (cs : List Frame) (K kb kl : Nat) (c : Int) (ns : List Int) : MpM where
  q := { K := K, n := ns.length, c0 := w.heap.size + 1, Wg := w.heap.size + 3, nfuel := 80, fv := fnV kb, phi := applyP c, Xf := BoxA kb c, Sx := fun b => b = kb }
  cs := cs
  Shun := Shun
  n0 := w.heap.size
  w0 := w
  inV := seqV kl
  xs := ints ns
  e8 := w.heap.size + 2
  e4 := w.heap.size
theorem mapM_ok (hc : 0 ≤ c ∧ c < 256) (hK1 : 0 < K) (hK : K ≤ 16) (hn : ns.length ≤ 900000) (hf : Cel Shun kb (.int .u8 c) w) (hi : Cel Shun kl (.slice fa ns.length cap) w) (hL : Ls Shun fa (ints ns) w) : MpMOK (mapM Shun w cs K kb kl c ns) where
  q := ⟨⟨fun w h b e => by subst e; exact cell_lt h, fun w b o v hb h => (cell?_eq (setCell_ne (fun e : kb = b => hb (show b = kb from e.symm))) 0).trans h⟩, fun own Got Rd hs => boxA_firm (hs _ rfl), fun own Got Rd n hs => call30P (hs _ rfl) hc⟩
  few := hK
  one := hK1
  wg := Nat.le_add_right _ _
  c0 := Nat.le_add_right _ _
  e8 := Nat.le_add_right _ _
  e4 := Nat.le_refl _
  sx b hb := by
    have hb' : b = kb := hb
    subst hb'
    exact ⟨cell_lt hf.2, hf.1⟩
  x0 w' h := (h kb 0 rfl).trans hf.2
  it := ⟨kl, fa, cap, rfl, ⟨cell_lt hi.2, hi.1⟩, by show w.cell? _ = _; rw [hi.2]; simp [mapM], fun i v hv => by
    obtain ⟨bl, o, h1, h2, h3⟩ := hL i v hv
    exact ⟨bl, o, h1, cell_lt h3, h2, h3⟩⟩
  xs := ⟨by simp [mapM], hn, fun v hv => by
    obtain ⟨n, _, rfl⟩ := List.mem_map.1 hv
    exact ⟨n, rfl⟩⟩
/-- A slice that a call made. -/
def Got (w' : World) (v : Value) (ys : List Int) : Prop := ∃ fa cap, v = .slice fa ys.length cap ∧ w'.ownsRow 0 3 1 (.slice fa ys.length cap) ys.length (ints ys)
theorem got_of {w' : World} {v : Value} {ys : List Int} (hr : w'.ownsRow 0 3 1 v ys.length (ints ys)) : Got w' v ys := by
  rcases hr.2 with ⟨e, h0⟩ | ⟨g, c, cur, e, _⟩
  · refine ⟨none, 0, by rw [h0]; exact e, ?_⟩
    rw [e] at hr
    rw [show Value.slice none ys.length 0 = .slice none 0 0 by rw [h0]]
    exact hr
  · exact ⟨_, c, e, by rw [← e]; exact hr⟩
/-- A CALL OF Map, as the laws make it. -/
theorem map_law (h66 : S66 Shun w) (hc : 0 ≤ c ∧ c < 256) (hK1 : 0 < K) (hK : K ≤ 16) (hn : ns.length ≤ 900000) (hf : Cel Shun kb (.int .u8 c) w) (hi : Cel Shun kl (.slice fa ns.length cap) w) (hL : Ls Shun fa (ints ns) w) :
    Lone Try.prog w.heap.size (fun S g w' => Keep Shun w S w' ∧ ∃ v, Got w' v (ns.map (applyP c)) ∧ g = G (b₀.at (a₀.put ((ops₀[i₀]?).bind (·.dst)) (.tuple #[v, .int .i64 0])) (.inRegion ops₀ rest₀ :: k₀)) cs) Shun
      (G ((base 11).at ⟨#[.int .i64 K, fnV kb, seqV kl, undef, undef, undef, undef, undef, undef, undef, undef, undef, undef, undef, undef, undef, undef, undef, undef, undef, undef, undef, undef, undef, undef, undef, undef, undef, undef, undef, undef, undef, undef, undef, undef, undef, undef, undef, undef, undef, undef, undef, undef, undef, undef, undef, undef, undef, undef, undef, undef, undef, undef, undef, undef, undef, undef, undef, undef, undef, undef, undef, undef, undef], []⟩ [.code bodyM]) (b₀.at a₀ (.inRegion ops₀ (i₀ :: rest₀) :: k₀) :: cs)) w := by
  have hm := mapM_ok (cs := (b₀.at a₀ (.inRegion ops₀ (i₀ :: rest₀) :: k₀) :: cs)) hc hK1 hK hn hf hi hL
  refine (map_call hm rfl rfl rfl rfl rfl rfl (fun b hb => h66.lt hb) rfl).imp fun S g w' _ h => ?_
  obtain ⟨hS, v, hR, rfl⟩ := h
  have ho : Out w.heap.size w (fun b _ => Shun b) w' := hR.out
  refine ⟨⟨fun b hb => (hS b hb).imp id fun e => by rw [e]; show w.heap.size ≤ w.heap.size + 3; omega, ho, s66_of h66 ho hR.live hS⟩, v, got_of ?_, rfl⟩
  have hrow := hR.row
  have e1 : (mapM Shun w (b₀.at a₀ (.inRegion ops₀ (i₀ :: rest₀) :: k₀) :: cs) K kb kl c ns).xs.length = (ns.map (applyP c)).length := by simp [mapM]
  have e2 : (mapM Shun w (b₀.at a₀ (.inRegion ops₀ (i₀ :: rest₀) :: k₀) :: cs) K kb kl c ns).xs.map (mapV (mapM Shun w (b₀.at a₀ (.inRegion ops₀ (i₀ :: rest₀) :: k₀) :: cs) K kb kl c ns).q.phi) = ints (ns.map (applyP c)) := by simp [mapM, mapV, Function.comp_def]
  rw [e1, e2] at hrow
  exact hrow
/-- A call of Map that is refused for the number of its workers. -/
theorem map_few (h66 : S66 Shun w) {k : Int} {inV : Value} (hk : k < 1 ∨ 16 < k) :
    Lone Try.prog w.heap.size (fun S g w' => Keep Shun w S w' ∧ g = G (b₀.at (a₀.put ((ops₀[i₀]?).bind (·.dst)) (.tuple #[.slice none 0 0, .int .i64 1])) (.inRegion ops₀ rest₀ :: k₀)) cs) Shun
      (G ((base 11).at ⟨#[.int .i64 k, fnV kb, inV, undef, undef, undef, undef, undef, undef, undef, undef, undef, undef, undef, undef, undef, undef, undef, undef, undef, undef, undef, undef, undef, undef, undef, undef, undef, undef, undef, undef, undef, undef, undef, undef, undef, undef, undef, undef, undef, undef, undef, undef, undef, undef, undef, undef, undef, undef, undef, undef, undef, undef, undef, undef, undef, undef, undef, undef, undef, undef, undef, undef, undef], []⟩ [.code bodyM]) (b₀.at a₀ (.inRegion ops₀ (i₀ :: rest₀) :: k₀) :: cs)) w := by
  have hfr : Fresh w.heap.size w (fun b _ => Shun b) [] w := ⟨Out.refl (Nat.le_refl _), by simp, fun i o h => by simp at h⟩
  refine Lone.goes (n := 60) (mp_size (fun b hb => h66.lt hb) hk hfr fun w' hF => ⟨⟨fun _ => .inl, hF.out, fun b hb => ?_⟩, rfl⟩)
  obtain ⟨cs, hc⟩ := h66 b hb
  obtain ⟨c', hc', _⟩ := hF.out.form b cs 66 (0, 0) (h66.lt hb) hc
  exact ⟨c', hc'⟩

/-! ### Chain -/
variable {codes : List Int} {kf : Nat → Nat} {ff : Option Addr} {capf : Nat}
def chainM (Shun : Nat → Prop) (w : World) (cs : List Frame) (kl : Nat) (kf : Nat → Nat) (codes ns : List Int) (fsV : Value) : ChM where
  q := { nf := codes.length, n := ns.length, c0 := w.heap.size + 1, Wg := w.heap.size, nfuel := 80, fv := fun s => fnV (kf s), phi := fun s => applyP (codes.getD s 0), X := fun _ _ _ s _ w => s < codes.length ∧ BoxA (kf s) (codes.getD s 0) w, need := fun _ _ Rd s => s < codes.length → Rd (kf s) }
  cs := cs
  Shun := Shun
  n0 := w.heap.size
  w0 := w
  inV := seqV kl
  fsV := fsV
  gv := fun _ _ _ => False
  rdx := fun s b => s < codes.length ∧ b = kf s
  xs := ints ns
/-- The functions in their slice. -/
def FnsAt (Shun : Nat → Prop) (ff : Option Addr) (kf : Nat → Nat) (n : Nat) (w : World) : Prop := ∀ s, s < n → ∃ bf o, ff = some ⟨bf, o, none⟩ ∧ ¬ Shun bf ∧ w.cell? ⟨bf, o + s, none⟩ = some (fnV (kf s))
theorem codes_at {codes : List Int} (hc : ∀ c ∈ codes, 0 ≤ c ∧ c < 256) {s : Nat} (hs : s < codes.length) : 0 ≤ codes.getD s 0 ∧ codes.getD s 0 < 256 := by
  rw [List.getD_eq_getElem?_getD, List.getElem?_eq_getElem hs]
  exact hc _ (List.getElem_mem hs)
theorem chainM_ok (hc : ∀ c ∈ codes, 0 ≤ c ∧ c < 256) (hK : codes.length ≤ 16) (hn : ns.length ≤ 900000) (hf : ∀ s, s < codes.length → Cel Shun (kf s) (.int .u8 (codes.getD s 0)) w) (hfs : FnsAt Shun ff kf codes.length w) (hi : Cel Shun kl (.slice fa ns.length cap) w) (hL : Ls Shun fa (ints ns) w) : ChMOK (chainM Shun w cs kl kf codes ns (.slice ff codes.length capf)) where
  q := {
    small := hn
    firm := fun own Got Rd s xs hneed w w₁ r h => ⟨h.1, boxA_firm (hneed h.1) w w₁ r h.2⟩
    calls := fun own Got Rd s xs x hneed b a ops i rest k cs o y z ats w h1 h2 h3 h4 h5 h6 h7 h8 =>
      (call30 (hneed h8.1) (codes_at hc h8.1) b a ops i rest k cs o y z ats w h1 h2 h3 h4 h5 h6 h7 h8.2).imp fun g w' h => ⟨h.1, h.2.1, ⟨h8.1, h.2.2.1⟩, h.2.2.2⟩
    chan := fun own Got Rd s xs d k w hneed hd h => ⟨h.1, by
      have h2 : w.cell? ⟨kf s, 0, none⟩ = _ := h.2
      have hne : kf s ≠ d := fun e => by rw [e] at h2; simp [World.cell?, hd] at h2
      have e : w.setChan d 0 #[] true k k false = w.putObj d (.chan 0 #[] true k k false) := rfl
      show World.cell? _ _ = _
      rw [e]
      exact (cell?_eq (World.putObj_heap_other hne) 0).trans h2⟩ }
  few := hK
  wg := Nat.le_refl _
  c0 := Nat.le_add_right _ _
  gvB _ _ _ h := h.elim
  rdB s b h := by
    obtain ⟨hs, rfl⟩ := h
    exact ⟨cell_lt (hf s hs).2, (hf s hs).1⟩
  apart _ _ _ _ h := h.elim
  apart' _ _ _ _ _ h := h.elim
  need own Got Rd s _ h hs := h _ ⟨hs, rfl⟩
  x0 own Got Rd s w' hs h _ := ⟨hs, (h (kf s) 0 (.inr ⟨hs, rfl⟩)).trans (hf s hs).2⟩
  fs := ⟨ff, capf, rfl, fun s hs => by
    obtain ⟨bf, o, h1, h2, h3⟩ := hfs s hs
    exact ⟨bf, o, h1, cell_lt h3, h2, fun _ _ h => h, h3⟩⟩
  fn s _ := ⟨_, _, _, rfl⟩
  it := ⟨kl, fa, cap, rfl, ⟨cell_lt hi.2, hi.1, fun _ _ h => h⟩, by show w.cell? _ = _; rw [hi.2]; simp [chainM], fun i v hv => by
    obtain ⟨bl, o, h1, h2, h3⟩ := hL i v hv
    exact ⟨bl, o, h1, cell_lt h3, h2, fun _ _ h => h, h3⟩⟩
  xs := ⟨by simp [chainM], fun v hv => by
    obtain ⟨n, _, rfl⟩ := List.mem_map.1 hv
    exact ⟨n, rfl⟩⟩
theorem compI_take (codes : List Int) : ∀ (s : Nat) (ns : List Int), s ≤ codes.length → ns.map (compI (fun s => applyP (codes.getD s 0)) s) = chainL (codes.take s) ns := by
  intro s
  induction s with
  | zero => intro ns _; simp [compI, chainL]
  | succ s ih =>
    intro ns hs
    have hv : codes[s]? = some codes[s] := List.getElem?_eq_getElem (by omega)
    have e : chainL (codes.take (s + 1)) ns = (chainL (codes.take s) ns).map (applyP codes[s]) := by
      unfold chainL
      rw [List.take_add_one, hv, List.foldl_append]
      rfl
    rw [e, ← ih ns (by omega), List.map_map]
    refine List.map_congr_left fun x _ => ?_
    show applyP (codes.getD s 0) _ = _
    rw [List.getD_eq_getElem?_getD, hv]
    rfl
/-- A CALL OF Chain, as the laws make it. -/
theorem chain_law (h66 : S66 Shun w) (hc : ∀ c ∈ codes, 0 ≤ c ∧ c < 256) (hK : codes.length ≤ 16) (hn : ns.length ≤ 900000) (hf : ∀ s, s < codes.length → Cel Shun (kf s) (.int .u8 (codes.getD s 0)) w) (hfs : FnsAt Shun ff kf codes.length w) (hi : Cel Shun kl (.slice fa ns.length cap) w) (hL : Ls Shun fa (ints ns) w) :
    Lone Try.prog w.heap.size (fun S g w' => Keep Shun w S w' ∧ ∃ v, Got w' v (chainL codes ns) ∧ g = G (b₀.at (a₀.put ((ops₀[i₀]?).bind (·.dst)) (.tuple #[v, .int .i64 0])) (.inRegion ops₀ rest₀ :: k₀)) cs) Shun
      (G ((base 16).at ⟨#[seqV kl, .slice ff codes.length capf, undef, undef, undef, undef, undef, undef, undef, undef, undef, undef, undef, undef, undef, undef, undef, undef, undef, undef, undef, undef, undef, undef, undef, undef, undef, undef, undef, undef, undef, undef, undef, undef, undef, undef, undef, undef, undef, undef, undef, undef, undef, undef, undef, undef, undef, undef, undef], []⟩ [.code body16]) (b₀.at a₀ (.inRegion ops₀ (i₀ :: rest₀) :: k₀) :: cs)) w := by
  have hm := chainM_ok (cs := (b₀.at a₀ (.inRegion ops₀ (i₀ :: rest₀) :: k₀) :: cs)) (capf := capf) hc hK hn hf hfs hi hL
  refine (chain_call hm rfl rfl rfl rfl (fun b hb => h66.lt hb) (fun _ _ _ _ h => h) (fun own Got Rd s xs w d ds hd h => ⟨h.1, ?_⟩)).imp fun S g w' _ h => ?_
  · have h2 : w.cell? ⟨kf s, 0, none⟩ = _ := h.2
    have hne : kf s ≠ d := fun e => by rw [e] at h2; simp [World.cell?, hd] at h2
    exact (cell?_eq (World.putObj_heap_other hne) 0).trans h2
  · obtain ⟨hS, v, hR, rfl⟩ := h
    have ho : Out w.heap.size w (fun b _ => Shun b) w' := hR.out.less fun b x _ hx => hx.elim id fun ⟨_, _, h⟩ => h.elim
    refine ⟨⟨fun b hb => (hS b hb).imp id fun e => by rw [e]; exact Nat.le_refl _, ho, s66_of h66 ho hR.live hS⟩, v, got_of ?_, rfl⟩
    have hrow := hR.row
    have e2 : (chainM Shun w (b₀.at a₀ (.inRegion ops₀ (i₀ :: rest₀) :: k₀) :: cs) kl kf codes ns (.slice ff codes.length capf)).xs.map (PP.comp (chainM Shun w (b₀.at a₀ (.inRegion ops₀ (i₀ :: rest₀) :: k₀) :: cs) kl kf codes ns (.slice ff codes.length capf)).q.pp.phi (chainM Shun w (b₀.at a₀ (.inRegion ops₀ (i₀ :: rest₀) :: k₀) :: cs) kl kf codes ns (.slice ff codes.length capf)).q.nf) = ints (chainL codes ns) := by
      have h := compI_take codes codes.length ns (Nat.le_refl _)
      rw [List.take_length] at h
      rw [← h]
      simp only [ints, List.map_map]
      show List.map _ (List.map _ ns) = _
      rw [List.map_map]
      exact List.map_congr_left fun x _ => comp_int _ _ x
    have e1 : (chainM Shun w (b₀.at a₀ (.inRegion ops₀ (i₀ :: rest₀) :: k₀) :: cs) kl kf codes ns (.slice ff codes.length capf)).xs.length = (chainL codes ns).length := by
      have h := compI_take codes codes.length ns (Nat.le_refl _)
      rw [List.take_length] at h
      rw [← h]
      simp [chainM]
    rw [e1, e2] at hrow
    exact hrow
end
end Go.Proofs.Ytblpmdolclalnaa
