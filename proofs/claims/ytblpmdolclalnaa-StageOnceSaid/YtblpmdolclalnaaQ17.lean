/- Chain[int]: its beginning and its end, goroutine 0 being alone. Made by gen_cml.py. A call of Chain[int] by goroutine 0, whole. Conditions: those of ChMOK; the functions and the iterator are no nil. A layer over the protocol of Map: between two receives a worker goes through phases, each an atomic access of a cell that all workers turn; conditions: LayOK. A worker of .. -/
import Derived.Test.YtblpmdolclalnaaQ03
import Derived.Test.YtblpmdolclalnaaQ11
import Derived.Test.YtblpmdolclalnaaQ16
set_option maxHeartbeats 16000000
set_option linter.unusedSimpArgs false
set_option linter.unusedVariables false
namespace Go.Proofs.Ytblpmdolclalnaa
open Go.Conc Go.RowKit Go.Conc.Lib Go.ConcR.Gen Go.ConcN.Gen
open Go.ConcR (WgAt KK stA smA rd wr mk DC0)
open Go.ConcN (WgLive)
structure HTc (inV fsV : Value) (T : Array Value) : Prop where
 size : T.size = 49
 t0 : T[0]? = some inV
 t1 : T[1]? = some fsV
noncomputable def ops1 : Array Oper := cO (cF (cF (tl16 1)))
noncomputable def k1 : List Item := [.code (cS (cF (tl16 1))), .code (tl16 2)]
section
variable {Shun : Nat → Prop} {F : World → Prop} {w : World} {cs : List Frame} {fa : Option Addr} {nf cap kl : Nat}
set_option maxRecDepth 100000 in
theorem ch_test {Stop : Goroutine → World → Prop} (hS : Steady F) (hF : F w) {f : Fn} {fr cp : Array Value} (hnf : nf ≤ 16)
   (hgo : ∀ T w, F w → T.size = 49 → T[0]? = some (.func f fr cp) → T[1]? = some (.slice fa nf cap) → T[22]? = some (.bool false) → Stop (G ((base 33).at ⟨#[.slice fa nf cap, .func (.func 34) #[] #[], undef, undef, undef, undef, undef, undef, undef], []⟩ [.code body33]) ((base 16).at ⟨T, []⟩ (.inRegion ops1 [9, 10] :: k1) :: cs)) w) :
   Goes Try.prog true AtRel (SD Shun) Stop 40 (G ((base 16).at ⟨#[.func f fr cp, .slice fa nf cap, undef, undef, undef, undef, undef, undef, undef, undef, undef, undef, undef, undef, undef, undef, undef, undef, undef, undef, undef, undef, undef, undef, undef, undef, undef, undef, undef, undef, undef, undef, undef, undef, undef, undef, undef, undef, undef, undef, undef, undef, undef, undef, undef, undef, undef, undef, undef], []⟩ [.code body16]) cs) w := by
 have hD : ∀ w, SD Shun w w #[] := sd_idle
 have rl : ∀ {w w₁ : World}, F w → AtRel w w₁ → F w₁ := fun h r => hS.rel h r
 have hgt : decide ((16 : Int) < (nf : Int)) = false := decide_eq_false (by omega)
 replace hgo := Hd.mk hgo
 simp only [ops1, k1, tl16, cS, cF, cO, body16, body33, Try.f33, Try.f16, Option.getD_some] at hgo ⊢
 repeat ((first | ((with_reducible refine g_opG ?_); first | (refine g_unw hD rfl rfl ?_; intro _ h₁; replace hF := rl hF h₁; clear h₁; walk_nrm) | (refine Goes.step rfl ?_; intro _ h₁; replace hF := rl hF h₁; clear h₁; refine goes_oper_k rfl rfl (by k_ne) fun K hK => ?_; go_simp; refine hK _ _ ⟨g_idle hD fun e he => by have hm := mem_listed he; simp [go_sem, *] at hm, ?_⟩; clear hK K; try w_num)) | ((first | ((with_reducible refine g_c (k' := ?_) true true hD ?_ ?_); rotate_left; focus exact rfl) | with_reducible refine g_r hD rfl ?_); intro _ h₁; replace hF := rl hF h₁; clear h₁)))
 ((with_reducible refine g_opG ?_); refine Goes.step rfl (fun _ h₁ => ?_); replace hF := rl hF h₁; clear h₁; refine goes_call rfl rfl (by k_ne) rfl Try.func33 rfl rfl ⟨hD _, ?_⟩; walk_nrmf Try.f33)
 exact Goes.stop fun w₁ h₁ => hgo.out _ _ (rl hF h₁) rfl rfl rfl rfl
end
/-! ### blocks of the call's own -/
structure Fresh (n0 : Nat) (w0 : World) (Given : Cells) (l : List Obj) (w : World) : Prop where
 out : Out n0 w0 Given w
 size : w.heap.size = n0 + l.length
 obj : ∀ (i : Nat) (o : Obj), l[i]? = some o → w.heap[n0 + i]? = some o
section
variable {n0 : Nat} {w0 w : World} {Given : Cells} {l : List Obj} {i : Nat}
theorem Out.at (h : Out n0 w0 Given w) (d : Nat) : Out n0 w0 Given (w.at d) := ⟨h.size, h.cell, h.blk, h.form, h.os, h.out, h.tape⟩
theorem Fresh.steady : Steady (Fresh n0 w0 Given l) := fun _ d h => ⟨h.out.at d, h.size, h.obj⟩
theorem Fresh.alloc (h : Fresh n0 w0 Given l w) (o : Obj) : Fresh n0 w0 Given (l ++ [o]) (w.alloc o) := by
 refine ⟨h.out.alloc o, by simp [h.size]; omega, fun i o' hi => ?_⟩
 rcases Nat.lt_or_ge i l.length with hl | hl
 · rw [List.getElem?_append_left hl] at hi
   have := h.obj i o' hi
   rw [heap_alloc_old _ _ _ (by rw [h.size]; omega)]
   exact this
 · rw [List.getElem?_append_right hl] at hi
   have h0 : i - l.length = 0 := by
     rcases Nat.eq_zero_or_pos (i - l.length) with x | x
     · exact x
     · rw [List.getElem?_eq_none (by simp; omega)] at hi
       cases hi
   rw [h0] at hi
   have e : n0 + i = w.heap.size := by rw [h.size]; omega
   rw [e, heap_alloc_new]
   simpa using hi
theorem Fresh.cell {z : Value} {t : TypeId} (h : Fresh n0 w0 Given l w) (hi : l[i]? = some (.cells #[z] t (0, 0))) : w.cell? ⟨n0 + i, 0, none⟩ = some z := by
 have := h.obj i _ hi
 simp [World.cell?, this]
theorem Fresh.set {z v : Value} {t : TypeId} (h : Fresh n0 w0 Given l w) (hi : l[i]? = some (.cells #[z] t (0, 0))) : Fresh n0 w0 Given (l.set i (.cells #[v] t (0, 0))) (w.setCell ⟨n0 + i, 0, none⟩ v) := by
 have hc := h.obj i _ hi
 refine ⟨h.out.set v (by omega), by simp [World.setCell, h.size], fun j o hj => ?_⟩
 by_cases e : j = i
 · subst e
   rw [List.getElem?_set_self (List.getElem?_eq_some_iff.1 hi).1] at hj
   cases hj
   unfold World.setCell
   simp [Array.getElem?_modify, hc]
 · rw [List.getElem?_set_ne (Ne.symm e)] at hj
   exact (setCell_ne (by show n0 + j ≠ n0 + i; omega)).trans (h.obj j o hj)
end
section
variable {Shun : Nat → Prop} {n0 : Nat} {w0 w : World} {Given : Cells} {cs : List Frame} {fa : Option Addr} {nf cap : Nat}
set_option maxRecDepth 100000 in
theorem ch_open {Stop : Goroutine → World → Prop} (hsh : ∀ b, Shun b → b < n0) {T : Array Value} {inV fsV : Value} (hs : T.size = 49) (t0 : T[0]? = some inV) (t1 : T[1]? = some fsV) (t22 : T[22]? = some (.bool false)) (hF : Fresh n0 w0 Given [] w)
   (hgo : ∀ T w, Fresh n0 w0 Given [.cells #[.int .u64 0, .int .u32 0] 66 (0, 0), .chan 0 #[] false 0 0 false, .cells #[.chan (some (n0 + 1))] 75 (0, 0), .cells #[.chan (some (n0 + 1))] 75 (0, 0)] w →
     T.size = 49 → T[0]? = some inV → T[1]? = some fsV → T[6]? = some (ptr n0) → T[7]? = some (ptr (n0 + 2)) → T[8]? = some (ptr (n0 + 3)) → Stop (G ((base 16).at ⟨T, []⟩ [.code (tl16 5)]) cs) w) :
   Goes Try.prog true AtRel (SD Shun) Stop 60 (G ((base 16).at ⟨T.setIfInBounds 24 (.bool false), []⟩ (.inRegion ops1 [10] :: k1)) cs) w := by
 have hD : ∀ w, SD Shun w w #[] := sd_idle
 have rl : ∀ {l : List Obj} {w w₁ : World}, Fresh n0 w0 Given l w → AtRel w w₁ → Fresh n0 w0 Given l w₁ := fun h r => Fresh.steady.rel h r
 replace hgo := Hd.mk hgo
 obtain ⟨v0, v1, v2, v3, v4, v5, v6, v7, v8, v9, v10, v11, v12, v13, v14, v15, v16, v17, v18, v19, v20, v21, v22, v23, v24, v25, v26, v27, v28, v29, v30, v31, v32, v33, v34, v35, v36, v37, v38, v39, v40, v41, v42, v43, v44, v45, v46, v47, v48, rfl⟩ := array49 T hs
 simp only [List.getElem?_toArray, List.getElem?_cons_zero, List.getElem?_cons_succ, Option.some.injEq] at t0 t1 t22
 subst t0 t1 t22
 clear hs
 simp only [ops1, k1, tl16, cS, cF, cO, body16, Try.f16, Option.getD_some] at hgo ⊢
 try walk_nrm
 repeat ((first | ((with_reducible refine g_opG ?_); first | (refine g_unw hD rfl rfl ?_; intro _ h₁; replace hF := rl hF h₁; clear h₁; walk_nrm) | (refine Goes.step rfl ?_; intro _ h₁; replace hF := rl hF h₁; clear h₁; refine goes_oper_k rfl rfl (by k_ne) fun K hK => ?_; go_simp; refine hK _ _ ⟨g_idle hD fun e he => by have hm := mem_listed he; simp [go_sem, *] at hm, ?_⟩; clear hK K; try w_num)) | ((first | ((with_reducible refine g_c (k' := ?_) true true hD ?_ ?_); rotate_left; focus exact rfl) | with_reducible refine g_r hD rfl ?_); intro _ h₁; replace hF := rl hF h₁; clear h₁)))
 refine Goes.step rfl fun w₁ h₁ => ?_
 replace hF := rl hF h₁
 clear h₁
 refine goes_oper_k rfl rfl (by decide) (fun K hK => ?_)
 go_simp
 refine hK _ _ ⟨sd_new (by simp) (fun e he => ?_), ?_⟩
 · have hm := mem_listed he
   simp [go_sem] at hm
 clear hK K
 have hsz : w₁.heap.size = n0 + 0 := hF.size
 replace hF := hF.alloc (.cells #[.int .u64 0, .int .u32 0] 66)
 simp only [List.nil_append] at hF
 rw [hsz]
 clear hsz
 generalize w₁.alloc (.cells #[.int .u64 0, .int .u32 0] 66) = w₂ at hF ⊢
 clear w₁
 try walk_nrm
 repeat ((first | ((first | ((with_reducible refine g_c (k' := ?_) true true hD ?_ ?_); rotate_left; focus exact rfl) | with_reducible refine g_r hD rfl ?_); intro _ h₁; replace hF := rl hF h₁; clear h₁)))
 refine Goes.step rfl fun w₁ h₁ => ?_
 replace hF := rl hF h₁
 clear h₁
 refine goes_oper_k rfl rfl (by decide) (fun K hK => ?_)
 go_simp
 refine hK _ _ ⟨sd_new (by simp) (fun e he => ?_), ?_⟩
 · have hm := mem_listed he
   simp [go_sem] at hm
 clear hK K
 have hsz : w₁.heap.size = n0 + 1 := hF.size
 replace hF := hF.alloc (.chan 0 #[] false 0 0 false)
 simp only [List.nil_append, List.cons_append] at hF
 rw [hsz]
 clear hsz
 generalize w₁.alloc (.chan 0 #[] false 0 0 false) = w₂ at hF ⊢
 clear w₁
 try walk_nrm
 refine Goes.step rfl fun w₁ h₁ => ?_
 replace hF := rl hF h₁
 clear h₁
 refine goes_oper_k rfl rfl (by decide) (fun K hK => ?_)
 go_simp
 refine hK _ _ ⟨sd_new (by simp) (fun e he => ?_), ?_⟩
 · have hm := mem_listed he
   simp [go_sem] at hm
 clear hK K
 have hsz : w₁.heap.size = n0 + 2 := hF.size
 replace hF := hF.alloc (.cells #[.chan none] 75)
 simp only [List.nil_append, List.cons_append] at hF
 rw [hsz]
 clear hsz
 generalize w₁.alloc (.cells #[.chan none] 75) = w₂ at hF ⊢
 clear w₁
 try walk_nrm
 refine Goes.step rfl fun w₁ h₁ => ?_
 replace hF := rl hF h₁
 clear h₁
 refine goes_oper_k rfl rfl (by decide) (fun K hK => ?_)
 have h1 := hF.cell (i := 2) rfl
 have hfz := frozen_of (hF.obj 2 _ rfl) 0
 go_simp
 try (unfold stored; go_simp)
 refine hK _ _ ⟨sd_set (a := ⟨n0 + 2, 0, none⟩) (fun hx => by have : n0 + 2 < n0 := hsh _ hx; omega) (cell_lt h1) fun e he => ?_, ?_⟩
 · have hm := mem_listed he
   simp [go_sem, storedEv, h1, hfz] at hm
   exact hm
 clear hK K h1 hfz
 replace hF := hF.set (i := 2) (v := .chan (some (n0 + 1))) rfl
 simp only [List.set_cons_succ, List.set_cons_zero] at hF
 generalize w₁.setCell _ _ = w₂ at hF ⊢
 clear w₁
 try walk_nrm
 repeat ((first | ((first | ((with_reducible refine g_c (k' := ?_) true true hD ?_ ?_); rotate_left; focus exact rfl) | with_reducible refine g_r hD rfl ?_); intro _ h₁; replace hF := rl hF h₁; clear h₁)))
 refine Goes.step rfl fun w₁ h₁ => ?_
 replace hF := rl hF h₁
 clear h₁
 refine goes_oper_k rfl rfl (by decide) (fun K hK => ?_)
 have h1 := hF.cell (i := 2) rfl
 go_simp
 refine hK _ _ ⟨sd_read fun e he => ?_, ?_⟩
 · have hm := mem_listed he
   simp [go_sem, h1] at hm
   exact ⟨_, _, _, hm, fun hx => (by have : n0 + 2 < n0 := hsh _ hx; omega), cell_lt h1⟩
 clear hK K h1
 try walk_nrm
 refine Goes.step rfl fun w₁ h₁ => ?_
 replace hF := rl hF h₁
 clear h₁
 refine goes_oper_k rfl rfl (by decide) (fun K hK => ?_)
 go_simp
 refine hK _ _ ⟨sd_new (by simp) (fun e he => ?_), ?_⟩
 · have hm := mem_listed he
   simp [go_sem] at hm
 clear hK K
 have hsz : w₁.heap.size = n0 + 3 := hF.size
 replace hF := hF.alloc (.cells #[.chan none] 75)
 simp only [List.nil_append, List.cons_append] at hF
 rw [hsz]
 clear hsz
 generalize w₁.alloc (.cells #[.chan none] 75) = w₂ at hF ⊢
 clear w₁
 try walk_nrm
 refine Goes.step rfl fun w₁ h₁ => ?_
 replace hF := rl hF h₁
 clear h₁
 refine goes_oper_k rfl rfl (by decide) (fun K hK => ?_)
 have h1 := hF.cell (i := 3) rfl
 have hfz := frozen_of (hF.obj 3 _ rfl) 0
 go_simp
 try (unfold stored; go_simp)
 refine hK _ _ ⟨sd_set (a := ⟨n0 + 3, 0, none⟩) (fun hx => by have : n0 + 3 < n0 := hsh _ hx; omega) (cell_lt h1) fun e he => ?_, ?_⟩
 · have hm := mem_listed he
   simp [go_sem, storedEv, h1, hfz] at hm
   exact hm
 clear hK K h1 hfz
 replace hF := hF.set (i := 3) (v := .chan (some (n0 + 1))) rfl
 simp only [List.set_cons_succ, List.set_cons_zero] at hF
 generalize w₁.setCell _ _ = w₂ at hF ⊢
 clear w₁
 try walk_nrm
 (first | ((with_reducible refine g_opG ?_); first | (refine g_unw hD rfl rfl ?_; intro _ h₁; replace hF := rl hF h₁; clear h₁; walk_nrm) | (refine Goes.step rfl ?_; intro _ h₁; replace hF := rl hF h₁; clear h₁; refine goes_oper_k rfl rfl (by k_ne) fun K hK => ?_; go_simp; refine hK _ _ ⟨g_idle hD fun e he => by have hm := mem_listed he; simp [go_sem, *] at hm, ?_⟩; clear hK K; try w_num)) | ((first | ((with_reducible refine g_c (k' := ?_) true true hD ?_ ?_); rotate_left; focus exact rfl) | with_reducible refine g_r hD rfl ?_); intro _ h₁; replace hF := rl hF h₁; clear h₁))
 refine Goes.stop fun w₁ h₁ => ?_
 refine hgo.out _ _ (rl hF h₁) ?_ ?_ ?_ ?_ ?_ ?_ <;> rfl
end
/-! ### the end -/
structure ChRes (m : ChM) (v : Value) (w : World) : Prop where
 row : w.ownsRow 0 3 1 v m.xs.length (m.xs.map (PP.comp m.q.pp.phi m.q.nf))
 live : WgLive 66 m.q.Wg w
 out : Out m.n0 m.w0 (fun b x => m.Shun b ∨ ∃ s, s < m.q.nf ∧ m.gv s b x) w
 fns : ∀ s, s < m.q.nf → ∃ own Got Rd, m.q.need own Got Rd s ∧ m.q.X own Got Rd s (m.xs.map (PP.comp m.q.pp.phi s)) w
section
variable {m : ChM} {Shun : Nat → Prop} {e7 e8 e13 d : Nat} {w : World} {cs : List Frame}
theorem ChEnd.steady (hm : ChMOK m) : Steady (ChEnd m e13 d) := fun w d h => ⟨h.low, h.dfr, h.live, h.res, h.out.at d, fun s hs => let ⟨o, G, R, h1, h2⟩ := h.fns s hs; ⟨o, G, R, h1, hm.q.firm o G R s _ h1 _ _ (Rel.at w d) h2⟩⟩
set_option maxRecDepth 100000 in
theorem ch_close (hm : ChMOK m) {Stop : Goroutine → World → Prop} {b₀ : Frame} {a₀ : Act} {ops₀ : Array Oper} {i₀ : Nat} {rest₀ : List Nat} {k₀ : List Item} (hsh : ∀ b, Shun b → b < m.n0 ∨ b = m.q.Wg) {T : Array Value} (hT : HTs m e7 e8 e13 T) (hF : ChEnd m e13 d w)
   (hput : ∀ own Got Rd s xs w d ds, w.heap[d]? = some (.deferred ds) → m.q.X own Got Rd s xs w → m.q.X own Got Rd s xs (w.putObj d (.deferred none)))
   (hgo : ∀ v w, ChRes m v w → Stop (G (b₀.at (a₀.put ((ops₀[i₀]?).bind (·.dst)) (.tuple #[v, .int .i64 0])) (.inRegion ops₀ rest₀ :: k₀)) cs) w) :
   Goes Try.prog true AtRel (SD Shun) Stop 40 (G ((base 16).at ⟨T.setIfInBounds 47 (.tuple #[]), markD d⟩ (.inRegion ops21 [] :: [.code (tl16 12)])) (b₀.at a₀ (.inRegion ops₀ (i₀ :: rest₀) :: k₀) :: cs)) w := by
 have hD : ∀ w, SD Shun w w #[] := sd_idle
 have rl : ∀ {w w₁ : World}, ChEnd m e13 d w → AtRel w w₁ → ChEnd m e13 d w₁ := fun h r => (ChEnd.steady hm).rel h r
 replace hgo := Hd.mk hgo
 replace hput := Hd.mk hput
 obtain ⟨hs, t0, t6, t7, t8, t13, l13⟩ := hT
 obtain ⟨v0, v1, v2, v3, v4, v5, v6, v7, v8, v9, v10, v11, v12, v13, v14, v15, v16, v17, v18, v19, v20, v21, v22, v23, v24, v25, v26, v27, v28, v29, v30, v31, v32, v33, v34, v35, v36, v37, v38, v39, v40, v41, v42, v43, v44, v45, v46, v47, v48, rfl⟩ := array49 T hs
 simp only [List.getElem?_toArray, List.getElem?_cons_zero, List.getElem?_cons_succ, Option.some.injEq] at t0 t6 t7 t8 t13
 subst t0 t6 t7 t8 t13
 clear hs
 simp only [ops21, tl16, cS, cF, cO, body16, Try.f16, Option.getD_some]
 try walk_nrm
 repeat ((first | ((with_reducible refine g_opG ?_); first | (refine g_unw hD rfl rfl ?_; intro _ h₁; replace hF := rl hF h₁; clear h₁; walk_nrm) | (refine Goes.step rfl ?_; intro _ h₁; replace hF := rl hF h₁; clear h₁; refine goes_oper_k rfl rfl (by k_ne) fun K hK => ?_; go_simp; refine hK _ _ ⟨g_idle hD fun e he => by have hm := mem_listed he; simp [go_sem, *] at hm, ?_⟩; clear hK K; try w_num)) | ((first | ((with_reducible refine g_c (k' := ?_) true true hD ?_ ?_); rotate_left; focus exact rfl) | with_reducible refine g_r hD rfl ?_); intro _ h₁; replace hF := rl hF h₁; clear h₁)))
 refine Goes.step rfl fun w₁ h₁ => ?_
 replace hF := rl hF h₁
 clear h₁
 refine goes_oper_k rfl rfl (by decide) (fun K hK => ?_)
 obtain ⟨v, h1, hrow⟩ := hF.res
 go_simp
 refine hK _ _ ⟨sd_read fun e he => ?_, ?_⟩
 · have hm := mem_listed he
   simp [go_sem, h1] at hm
   exact ⟨_, _, _, hm, fun hx => (hsh _ hx).elim (fun h => by have := hF.low.1; exact absurd h (by show ¬ e13 < m.n0; omega)) hF.low.2.2, cell_lt h1⟩
 clear hK K h1
 have hv : (∃ b n c, v = .slice b n c) := by
   rcases hrow.2 with ⟨rfl, _⟩ | ⟨_, _, _, rfl, _⟩ <;> exact ⟨_, _, _, rfl⟩
 replace hF : ChEnd m e13 d w₁ ∧ w₁.ownsRow 0 3 1 v m.xs.length (m.xs.map (PP.comp m.q.pp.phi m.q.nf)) := ⟨hF, hrow⟩
 clear hrow rl
 have rl : ∀ {w w₁ : World}, (ChEnd m e13 d w ∧ w.ownsRow 0 3 1 v m.xs.length (m.xs.map (PP.comp m.q.pp.phi m.q.nf))) → AtRel w w₁ → (ChEnd m e13 d w₁ ∧ w₁.ownsRow 0 3 1 v m.xs.length (m.xs.map (PP.comp m.q.pp.phi m.q.nf))) := fun h r => ⟨(ChEnd.steady hm).rel h.1 r, by obtain ⟨d, rfl⟩ := r; exact h.2⟩
 try walk_nrm
 repeat ((first | ((with_reducible refine g_opG ?_); first | (refine g_unw hD rfl rfl ?_; intro _ h₁; replace hF := rl hF h₁; clear h₁; walk_nrm) | (refine Goes.step rfl ?_; intro _ h₁; replace hF := rl hF h₁; clear h₁; refine goes_oper_k rfl rfl (by k_ne) fun K hK => ?_; go_simp; refine hK _ _ ⟨g_idle hD fun e he => by have hm := mem_listed he; simp [go_sem, *] at hm, ?_⟩; clear hK K; try w_num)) | ((first | ((with_reducible refine g_c (k' := ?_) true true hD ?_ ?_); rotate_left; focus exact rfl) | with_reducible refine g_r hD rfl ?_); intro _ h₁; replace hF := rl hF h₁; clear h₁)))
 refine Goes.step rfl fun w₂ h₂ => ?_
 replace hF := rl hF h₂
 clear h₂
 rw [stepG_collected rfl hF.1.dfr]
 simp only [goes_go]
 have hd := hF.1.dfr
 have hne : ∀ b o, w₂.heap[b]? = some o → (∀ ds, o ≠ Obj.deferred ds) → (w₂.putObj d (.deferred none)).heap[b]? = w₂.heap[b]? := fun b o hb hn => World.putObj_heap_other fun e => by
   rw [e, hd] at hb
   exact hn _ (Option.some.inj hb).symm
 refine ⟨⟨by simp, fun e he => .inr (.inl ?_)⟩, ?_⟩
 · rcases seen_obj he with rfl | rfl
   · exact ⟨d, _, rfl, by simpa using (Array.getElem?_eq_some_iff.1 hd).1⟩
   · exact ⟨d, _, rfl, by simpa using (Array.getElem?_eq_some_iff.1 hd).1⟩
 have hR : ChRes m v (w₂.putObj d (.deferred none)) := by
   refine ⟨ownsRow_of hF.2 fun g hg => ?_, ?_, hF.1.out.put _ hF.1.low.2.1, fun s hs => let ⟨o, G, R, h1, h2⟩ := hF.1.fns s hs; ⟨o, G, R, h1, hput.out o G R s _ _ d _ hd h2⟩⟩
   · obtain ⟨c, hc⟩ := row_typ hF.2 hg
     exact hne g _ hc fun _ e => by cases e
   · obtain ⟨st, sm, hl⟩ := hF.1.live
     have hl' : w₂.heap[m.q.Wg]? = some (Go.ConcR.wgBlock 66 st sm) := hl
     exact ⟨st, sm, hl.of_block (hne _ _ hl' fun _ e => by cases e)⟩
 clear hne hd hF rl hput
 have rl : ∀ {w w₁ : World}, ChRes m v w → AtRel w w₁ → ChRes m v w₁ := fun {w w₁} h r => by
   obtain ⟨d', rfl⟩ := r
   exact ⟨h.row, h.live, h.out.at d', fun s hs => let ⟨o, G, R, h1, h2⟩ := h.fns s hs; ⟨o, G, R, h1, hm.q.firm o G R s _ h1 _ _ (Rel.at w d') h2⟩⟩
 refine Goes.step rfl fun w₃ h₃ => ?_
 replace hR := rl hR h₃
 clear h₃
 refine goes_leave2 rfl rfl Try.func16 rfl ⟨sd_idle _, ?_⟩
 exact Goes.stop fun w₄ h₄ => hgo.out _ _ (rl hR h₄)
end
end Go.Proofs.Ytblpmdolclalnaa
namespace Go.Proofs.Ytblpmdolclalnaa
open Go.Conc
open Go.ConcN (WgLive)
section
variable {m : ChM} {cs : List Frame} {b₀ : Frame} {a₀ : Act} {ops₀ : Array Oper} {i₀ : Nat} {rest₀ : List Nat} {k₀ : List Item}
theorem fnS_of {fa : Option Addr} {cap : Nat} (hm : ChMOK m) (hfs : m.fsV = .slice fa m.q.nf cap) {w : World} (ho : Out m.n0 m.w0 (fun b _ => m.Shun b) w) : FnS m.Shun fa ((List.range m.q.nf).map m.q.fv) w := by
 refine ⟨fun i v hv => ?_⟩
 obtain ⟨fa', cap', h1, h2⟩ := hm.fs
 rw [hfs] at h1
 cases h1
 rw [List.getElem?_map] at hv
 obtain ⟨s, hs, rfl⟩ := Option.map_eq_some_iff.1 hv
 have hlt : i < m.q.nf := by simpa using (List.getElem?_eq_some_iff.1 hs).1
 rw [List.getElem?_range hlt] at hs
 cases hs
 obtain ⟨bf, o, h3, h4, h5, _, h7⟩ := h2 i hlt
 refine ⟨bf, o, h3, h5, (ho.cell bf _ h4 h5).trans h7, .inr (hm.fn i hlt)⟩
theorem chain_call (hm : ChMOK m) (hcs : m.cs = b₀.at a₀ (.inRegion ops₀ (i₀ :: rest₀) :: k₀) :: cs) (hn : m.w0.heap.size = m.n0) (hWg : m.q.Wg = m.n0) (hc0 : m.q.c0 = m.n0 + 1) (hsh : ∀ b, m.Shun b → b < m.n0) (hX : ∀ b x s, m.q.nf ≤ s → ¬ m.gv s b x)
   (hput : ∀ own Got Rd s xs w d ds, w.heap[d]? = some (.deferred ds) → m.q.X own Got Rd s xs w → m.q.X own Got Rd s xs (w.putObj d (.deferred none))) :
   Lone Try.prog m.n0 (fun S g w => (∀ b, S b → m.Shun b ∨ b = m.n0) ∧ ∃ v, ChRes m v w ∧ g = G (b₀.at (a₀.put ((ops₀[i₀]?).bind (·.dst)) (.tuple #[v, .int .i64 0])) (.inRegion ops₀ rest₀ :: k₀)) cs) m.Shun
     (G ((base 16).at ⟨#[m.inV, m.fsV, undef, undef, undef, undef, undef, undef, undef, undef, undef, undef, undef, undef, undef, undef, undef, undef, undef, undef, undef, undef, undef, undef, undef, undef, undef, undef, undef, undef, undef, undef, undef, undef, undef, undef, undef, undef, undef, undef, undef, undef, undef, undef, undef, undef, undef, undef, undef], []⟩ [.code body16]) m.cs) m.w0 := by
 obtain ⟨kl, sa, cap, hi⟩ := hm.it
 obtain ⟨fa, capf, hfs, hel⟩ := hm.fs
 have hfr : Fresh m.n0 m.w0 (fun b _ => m.Shun b) [] m.w0 := ⟨Out.refl (Nat.le_of_eq hn.symm), by simpa using hn, fun i o h => by simp at h⟩
 have hfew := hm.few
 rw [hi.fv, hfs]
 have hlen : ((List.range m.q.nf).map m.q.fv).length = m.q.nf := by simp
 have hnil : ((List.range m.q.nf).map m.q.fv).any isNil = false := by
   rw [List.any_eq_false]
   intro v hv
   obtain ⟨s, hs, rfl⟩ := List.mem_map.1 hv
   obtain ⟨f, fr, cp, e⟩ := hm.fn s (by simpa using hs)
   rw [e]; simp [isNil]
 refine Lone.on (n := 40) (ch_test (F := Fresh m.n0 m.w0 (fun b _ => m.Shun b) []) (fa := fa) (nf := m.q.nf) (cap := capf) Fresh.steady hfr hfew fun T w hF hs t0 t1 t22 _ => ?_)
 have hnl := has_nil (N0 := m.n0) (cs := m.cs) (b₀ := base 16) (a₀ := ⟨T, []⟩) (ops₀ := ops1) (i₀ := 9) (rest₀ := [10]) (k₀ := k1) (cap := capf) (F := Fresh m.n0 m.w0 (fun b _ => m.Shun b) []) Fresh.steady (fun w h => fnS_of hm hfs h.out) (by rw [hlen]; omega) hF
 rw [hlen, hnil] at hnl
 refine hnl.bind fun S a' w' _ h => ?_
 obtain ⟨rfl, hF', rfl⟩ := h
 refine Lone.on (n := 60) (ch_open (cs := m.cs) (n0 := m.n0) (w0 := m.w0) (Given := fun b _ => m.Shun b) hsh hs t0 t1 t22 hF' fun T2 w2 hF2 hs2 u0 u1 u6 u7 u8 _ => ?_)
 have hCW : CW0 m (m.n0 + 2) (m.n0 + 3) w2 := by
   refine ⟨?_, ?_, ?_, ⟨_, hF2.obj 3 _ rfl⟩, ?_, hF2.out, ⟨by omega, by omega, by omega, by omega, by omega, by omega⟩, hsh⟩
   · rw [hWg]; exact hF2.obj 0 _ rfl
   · rw [hc0]; exact hF2.cell (i := 2) rfl
   · rw [hc0]; exact hF2.cell (i := 3) rfl
   · rw [hc0]; exact hF2.obj 1 _ rfl
 have hT : HT0 m (m.n0 + 2) (m.n0 + 3) T2 := ⟨hs2, by rw [u0, hi.fv]; rfl, by rw [u1, hfs], by rw [u6, hWg], u7, u8⟩
 refine (chain_phase hm hX hCW hT).bind fun S a3 w3 _ h => ?_
 obtain ⟨hS, e7, e8, e13, T3, d, hT3, hE, hG⟩ := h
 rw [hcs] at hG
 have hsh' : ∀ b, S b → b < m.n0 ∨ b = m.q.Wg := fun b hb => (hS b hb).imp (hsh b) id
 refine Lone.on (n := 20) (goes_imp (fun g w hg _ => ?_) (hG S))
 obtain ⟨rfl, hr⟩ := hg
 refine Lone.goes (n := 40) (ch_close (b₀ := b₀) (a₀ := a₀) (ops₀ := ops₀) (i₀ := i₀) (rest₀ := rest₀) (k₀ := k₀) hm hsh' hT3 ((ChEnd.steady hm).rel hE hr) hput fun v w hR => ⟨fun b hb => (hS b hb).imp id fun e => e.trans hWg, v, hR, rfl⟩)
end
end Go.Proofs.Ytblpmdolclalnaa
namespace Go.Proofs.Ytblpmdolclalnaa
open Go.Conc
open Go.ConcN (upd upd_same upd_ne)
structure Lay where
 A : Type
 a0 : A
 isA : A → Option (Nat × Nat)
 enter : Value → A → A
 okAt : A → Value → Prop
 put : A → Value → Option Value
 turn : A → Value → A
 cel : Nat → Nat → Prop
 val : Nat → (Nat → A) → Nat → Nat → Value
 J : MS → Nat → (Nat → KS × A) → Prop
 mu : A → Nat
 C : Nat
def PP.actA (L : Lay) (s : KS × L.A) : KAct := match L.isA s.2 with | none => PP.act s.1 | some (b, y) => .atom b y
def PP.netA (pp : PP) (L : Lay) (In : (Nat → Prop) → KS × L.A → Cells → (Nat → Prop) → Goroutine → World → Prop) (x : Flesh) : Net where
 S := KS × L.A
 M := ME
 act := PP.actA L
 mact := fun a => pp.mact a.1
 okGot := fun s v => pp.okGot s.1 v ∧ L.isA s.2 = none
 okEnd := fun s => PP.okEnd s.1 ∧ L.isA s.2 = none
 got := fun s v => (pp.gotS s.1 v, L.enter v s.2)
 ended := fun s => (pp.endS s.1, s.2)
 next := fun s => (PP.nextS s.1, s.2)
 cel := L.cel
 val := fun j f => L.val j (fun i => (f i).2)
 okAt := fun s => L.okAt s.2
 put := fun s => L.put s.2
 turn := fun s v => (s.1, L.turn s.2 v)
 succ := pp.succE
 zero := fun s => zof x.zero s.1
 shape := fun _ => .recv true
 mzero := fun _ => .tuple #[]
 hireS := fun a => (PP.hireS a.1, L.a0)
 hireGive := fun a => x.give a.1
 hireRd := fun a => x.reads a.1
 hireChs := fun a => pp.hireChs a.1
 gift := x.gift
 msg := x.msg
 Fin := fun s => x.Fin s.1
 muS := fun s => L.C * pp.muS s.1 + L.mu s.2
 muM := fun a => L.C * pp.muM a.1
 I := fun me j f cl => pp.InvE me j (fun i => (f i).1) cl ∧ L.J me.1 j f
 fuel := x.fuel
 Kid := fun own s Got Rd g w => match L.isA s.2 with | none => x.Kid own s.1 Got Rd g w | some _ => In own s Got Rd g w
 Main := x.Main
 Anch := x.Anch
 After := x.After
structure LayOK (pp : PP) (L : Lay) : Prop where
 pos : 0 < L.C
 a0 : L.isA L.a0 = none ∧ L.mu L.a0 = 0
 enter : ∀ v a, L.isA a = none → L.mu (L.enter v a) < L.C
 hire : ∀ m m' j f, L.J m j f → isHire m = true → pp.succ m m' → L.J m' (j + 1) (upd f j (PP.hireS m, L.a0))
 meet : ∀ l v m' j f i, j ≤ pp.K → l.length < pp.n → pp.okV v → L.J (.send l v) j f → pp.succ (.send l v) m' → i < j → L.isA (f i).2 = none → L.J m' j (upd f i (pp.gotS (f i).1 v, L.enter v (f i).2))
 ends : ∀ m j f i, L.J m j f → i < j → L.isA (f i).2 = none → L.J m j (upd f i (pp.endS (f i).1, (f i).2))
 shut : ∀ l j f, L.J (.shut l) j f → L.J (.wait l) j f
 atom : ∀ m j f b y i, j ≤ pp.K → L.J m j f → i < j → L.isA (f i).2 = some (b, y) → L.cel b y ∧ L.okAt (f i).2 (L.val j (fun i => (f i).2) b y) ∧ L.J m j (upd f i ((f i).1, L.turn (f i).2 (L.val j (fun i => (f i).2) b y))) ∧
   L.mu (L.turn (f i).2 (L.val j (fun i => (f i).2) b y)) < L.mu (f i).2 ∧
   ∀ b' y', L.cel b' y' → L.val j (upd (fun i => (f i).2) i (L.turn (f i).2 (L.val j (fun i => (f i).2) b y))) b' y' = if b' = b ∧ y' = y then (L.put (f i).2 (L.val j (fun i => (f i).2) b y)).getD (L.val j (fun i => (f i).2) b y) else L.val j (fun i => (f i).2) b' y'
 vHire : ∀ j fa b y, L.cel b y → L.val (j + 1) (upd fa j L.a0) b y = L.val j fa b y
 vGot : ∀ j fa i v b y, i < j → L.isA (fa i) = none → L.cel b y → L.val j (upd fa i (L.enter v (fa i))) b y = L.val j fa b y
section
variable {L : Lay} {s : KS × L.A}
theorem PP.actA_of {k : KAct} (h : PP.actA L s = k) (hk : ∀ b y, k ≠ .atom b y) : L.isA s.2 = none ∧ PP.act s.1 = k := by
 unfold PP.actA at h
 split at h
 · rename_i e; exact ⟨e, h⟩
 · exact absurd h.symm (hk _ _)
theorem PP.actA_atom {b y : Nat} (h : PP.actA L s = .atom b y) : L.isA s.2 = some (b, y) := by
 unfold PP.actA at h
 split at h
 · exact (PP.act_ne h).elim
 · rename_i e; cases h; exact e
theorem PP.actA_idle (h : L.isA s.2 = none) : PP.actA L s = PP.act s.1 := by unfold PP.actA; rw [h]
theorem upd_fst {A : Type} (f : Nat → KS × A) (i : Nat) (s : KS × A) : (fun k => (upd f i s k).1) = upd (fun k => (f k).1) i s.1 := by
 funext k; unfold upd; split <;> rfl
theorem upd_snd {A : Type} (f : Nat → KS × A) (i : Nat) (s : KS × A) : (fun k => (upd f i s k).2) = upd (fun k => (f k).2) i s.2 := by
 funext k; unfold upd; split <;> rfl
theorem PP.Inv.lift {pp : PP} {A : Type} {m : MS} {j : Nat} {cl : Nat → Option Bool} {f : Nat → KS × A} {i : Nat} {s : KS × A} (h : pp.Inv m j (upd (fun k => (f k).1) i s.1) cl) : pp.Inv m j (fun k => (upd f i s k).1) cl := by
 rw [upd_fst]; exact h
theorem PP.InvE.lift {pp : PP} {A : Type} {m : ME} {j : Nat} {cl : Nat → Option Bool} {f : Nat → KS × A} {i : Nat} {s : KS × A} (h : pp.InvE m j (upd (fun k => (f k).1) i s.1) cl) : pp.InvE m j (fun k => (upd f i s k).1) cl := by
 rw [upd_fst]; exact h
theorem Lay.lift {L : Lay} {j : Nat} {f : Nat → KS × L.A} {i : Nat} {s : KS × L.A} {b y : Nat} {v : Value} (h : L.val j (upd (fun k => (f k).2) i s.2) b y = v) : L.val j (fun k => (upd f i s k).2) b y = v := by
 rw [upd_snd]; exact h
theorem upd_self {A : Type} (f : Nat → A) (i : Nat) : upd f i (f i) = f := by
 funext k; unfold upd; split
 · rename_i e; rw [e]
 · rfl
end
theorem PP.netA_ok {P : Program} {ty : TypeId} {Wg : Nat} {pp : PP} {L : Lay} {In : (Nat → Prop) → KS × L.A → Cells → (Nat → Prop) → Goroutine → World → Prop} {x : Flesh} (hL : LayOK pp L) (h0 : pp.nf = 0) (hK1 : 0 < pp.K) (hb : pp.K < 2147483646) (hphi : ∀ i v, pp.okV v → pp.okV (pp.phi i v))
   (kid : ∀ own s Got Rd g w, (pp.netA L In x).Kid own s Got Rd g w → KStop P ty Wg (pp.netA L In x) own s Got Rd g w)
   (main : ∀ own m Given Fz g w, x.Main own m Given Fz g w → MStop P ty Wg (pp.netA L In x) own m Given Fz g w)
   (anch : ∀ own m Given Fz g w, x.Anch own m Given Fz g w → g.status = .running ∧ MGoo P ty Wg own Given Fz (AtW1 P ty Wg (pp.netA L In x) own m Given Fz) x.fuel g w)
   (uniq : ∀ own own' m m' Given Fz g w w' j f cl, pp.InvE m j f cl → pp.InvE m' j f cl → x.Main own m Given Fz g w → x.Main own' m' Given Fz g w' → m = m') : NetOK P ty Wg (pp.netA L In x) := by
 have hC := hL.pos
 have lt : ∀ {a b : Nat}, a < b → L.C * a < L.C * b := fun h => Nat.mul_lt_mul_of_pos_left h hC
 have nosend : ∀ {m j c} {f : Nat → KS × L.A} {cl} {v}, pp.InvE m j (fun i => (f i).1) cl → ∀ i, i < j → PP.actA L (f i) ≠ .send c v := fun h i hi e => by
   have := h.inv.send_lt hi (PP.act_send (PP.actA_of e (by simp)).2).1
   omega
 have noshut : ∀ {m j c} {f : Nat → KS × L.A} {cl}, pp.InvE m j (fun i => (f i).1) cl → ∀ i, i < j → PP.actA L (f i) ≠ .shut c := fun h i hi e => by
   have := h.inv.shut_lt hi (PP.act_shut (PP.actA_of e (by simp)).2).1
   omega
 refine { kid := kid, main := main, anch := anch, uniq := fun own own' m m' Given Fz g w w' j f cl h h' => uniq own own' m m' Given Fz g w w' j _ cl h.1 h'.1, hire := ?_, many := ?_, mmeet := ?_, kmeet := ?_, ends := ?_, mshut := ?_, kshut := ?_, chans := ?_, prog := ?_, some := ?_, less := ?_, lessE := ?_, lessN := ?_, atom := ?_, vHire := ?_, vGot := ?_, vEnd := ?_, vNext := ?_ }
 · intro m j f cl h hs
   obtain ⟨h, hJ⟩ := (h : pp.InvE m j (fun i => (f i).1) cl ∧ L.J m.1 j f)
   obtain ⟨m, en⟩ := m
   obtain ⟨h1, h2⟩ := h.inv.hire (.inl h0) hs
   obtain ⟨p, ci, co, e, rfl⟩ := PP.mact_hire hs
   obtain ⟨h3, h4, _⟩ := h.inv.cnt _ _ _ _ rfl
   obtain ⟨h5, h6⟩ := pp.mu_hire (ci := ci) (co := co) (e := e) h4
   have hm0 : ∀ k, L.C * k + L.mu L.a0 = L.C * k := fun k => by rw [hL.a0.2]; rfl
   refine ⟨by omega, ?_, fun i hi e => h1 i hi (PP.actA_of e (by simp)).2, fun m' hm' => ⟨⟨⟨?_, fun x => ?_, fun x => ⟨j, rfl, ?_⟩⟩, hL.hire _ _ _ _ hJ rfl hm'.1⟩, ?_⟩⟩
   · show L.C * _ + L.mu L.a0 < L.C * _
     rw [hm0]; exact lt h5
   · exact PP.Inv.lift (h2 m'.1 hm'.1)
   · rw [hm'.2]; unfold lastE; rw [if_pos x]
   · show (upd f j _ j).1.env = _
     rw [hm'.2, upd_same]; unfold lastE; rw [if_neg (by simp [x])]; rfl
   · show L.C * _ + (L.C * _ + L.mu L.a0) < L.C * _
     rw [hm0, ← Nat.mul_add]; exact lt (h6 m'.1 hm'.1)
 · intro m j f cl h
   have := PP.Inv.le (PP.InvE.inv h.1)
   omega
 · intro m j f cl c v i h hs hi hr
   obtain ⟨h, hJ⟩ := (h : pp.InvE m j (fun i => (f i).1) cl ∧ L.J m.1 j f)
   obtain ⟨m, en⟩ := m
   obtain ⟨hr0, hr1⟩ := PP.actA_of hr (by simp)
   obtain ⟨h1, h2⟩ := PP.Inv.mmeet h.inv hs hi hr1
   obtain ⟨rfl, l, rfl⟩ := PP.mact_send hs
   obtain ⟨h3, h4⟩ := pp.mu_send (l := l) (v := v)
   refine ⟨⟨h1, hr0⟩, Nat.mul_pos hC h3, fun m' hm' => ⟨⟨?_, hL.meet _ _ _ _ _ _ (by have := h.inv.le; omega) (h.inv.msg l v rfl).1 (h.inv.msg l v rfl).2 hJ hm'.1 hi hr0⟩, lt (h4 m'.1 hm'.1)⟩⟩
   exact PP.InvE.lift <| h.turn hm' rfl (by rcases hm'.1 with ⟨_, e, _⟩ | e <;> rw [e] <;> rfl) (h2 m'.1 hm'.1) (upd_env rfl)
 · intro m j f cl c v i k h hi hk hik hs hr
   exact absurd hs (nosend h.1 i hi)
 · intro m j f cl c i h hi hr hc
   obtain ⟨h, hJ⟩ := (h : pp.InvE m j (fun i => (f i).1) cl ∧ L.J m.1 j f)
   obtain ⟨hr0, hr1⟩ := PP.actA_of hr (by simp)
   obtain ⟨h1, h2⟩ := PP.Inv.ends h.inv hi hr1 hc
   refine ⟨⟨h1, hr0⟩, ?_, hL.ends _ _ _ _ hJ hi hr0⟩
   exact PP.InvE.lift <| h.kid h2 (upd_env rfl)
 · intro m j f cl c h hs
   obtain ⟨h, hJ⟩ := (h : pp.InvE m j (fun i => (f i).1) cl ∧ L.J m.1 j f)
   obtain ⟨m, en⟩ := m
   obtain ⟨h1, h2, h3⟩ := PP.Inv.mshut h.inv (by omega) hs
   obtain ⟨rfl, l, rfl⟩ := PP.mact_shut hs
   obtain ⟨h4, h5⟩ := pp.mu_shut (l := l)
   refine ⟨h1, fun i v hi e => nosend h i hi e, Nat.mul_pos hC h4, fun m' hm' => ⟨⟨h.turn hm' rfl (by rw [show m'.1 = .wait l from hm'.1]; rfl) (h3 m'.1 hm'.1) (fun _ => rfl), ?_⟩, lt (h5 m'.1 hm'.1)⟩⟩
   rw [show m'.1 = .wait l from hm'.1]
   exact hL.shut _ _ _ hJ
 · intro m j f cl c i h hi hs
   exact absurd hs (noshut h.1 i hi)
 · intro m j f cl h
   obtain ⟨h1, h2⟩ := PP.Inv.chans (PP.InvE.inv h.1) (by omega)
   exact ⟨h1, fun i hi => ⟨fun c hr => (h2 i hi).1 c (PP.actA_of hr (by simp)).2, fun c v hs => absurd hs (nosend h.1 i hi)⟩⟩
 · intro m j f cl h h1 h2 h3 h4
   have key : ∀ i, i < j → L.isA (f i).2 = none := fun i hi => by
     rcases h1 i hi with ⟨c, h, _⟩ | ⟨c, v, h⟩ | h <;> exact (PP.actA_of h (by simp)).1
   have ea : ∀ i, i < j → PP.actA L (f i) = PP.act (f i).1 := fun i hi => PP.actA_idle (key i hi)
   obtain ⟨h5, h6⟩ := PP.Inv.prog (PP.InvE.inv h.1) (.inl h0) hK1 (fun i hi => by rw [← ea i hi]; exact h1 i hi) h2 (fun i k c v hi hk => by rw [← ea i hi, ← ea k hk]; exact h3 i k c v hi hk) (fun i c v hi => by rw [← ea i hi]; exact h4 i c v hi)
   exact ⟨h5, fun i hi => (ea i hi).trans (h6 i hi)⟩
 · intro m h
   obtain ⟨m', hm'⟩ := PP.some_succ m.1 h
   exact ⟨(m', lastE m.1 m' m.2), hm', rfl⟩
 · intro s v h
   have h1 := PP.less s.1 v h.1
   have h2 := hL.enter v s.2 h.2
   have h3 : L.C * (pp.muS (pp.gotS s.1 v) + 1) ≤ L.C * pp.muS s.1 := Nat.mul_le_mul_left _ h1
   show L.C * pp.muS (pp.gotS s.1 v) + L.mu (L.enter v s.2) < L.C * pp.muS s.1 + L.mu s.2
   rw [Nat.mul_add] at h3
   omega
 · intro s h
   have := lt (PP.lessE (pp := pp) s.1 h.1)
   exact Nat.add_lt_add_right this _
 · intro s h1 h2 h3
   have hn : L.isA s.2 = none := by
     cases e : L.isA s.2 with
     | none => rfl
     | some p => exact absurd (by show PP.actA L s = _; unfold PP.actA; rw [e]) (h2 p.1 p.2)
   have ea : PP.actA L s = PP.act s.1 := PP.actA_idle hn
   have := lt (PP.lessN (pp := pp) s.1 (fun c e => h1 c (ea.trans e)) (fun e => h3 (ea.trans e)))
   exact Nat.add_lt_add_right this _
 · intro m j f cl b y i h hi ha
   obtain ⟨h, hJ⟩ := (h : pp.InvE m j (fun i => (f i).1) cl ∧ L.J m.1 j f)
   obtain ⟨h1, h2, h3, h4, h5⟩ := hL.atom _ _ _ _ _ _ (by have := h.inv.le; omega) hJ hi (PP.actA_atom ha)
   refine ⟨h1, h2, ⟨?_, h3⟩, ?_, fun b' y' hc => ?_⟩
   · refine PP.InvE.lift (s := ((f i).1, _)) ?_
     rw [show upd (fun k => (f k).1) i (f i).1 = fun k => (f k).1 from upd_self (fun k => (f k).1) i]
     exact h
   · exact Nat.add_lt_add_left h4 _
   · exact Lay.lift (h5 b' y' hc)
 · intro m j f cl _ _ b y hc
   exact Lay.lift (hL.vHire _ _ _ _ hc)
 · intro j f i v hi h b y hc
   exact Lay.lift (hL.vGot _ _ _ _ _ _ hi h.2 hc)
 · intro j f i hi _ b y hc
   exact Lay.lift (s := (_, (f i).2)) (congrArg (fun g => L.val j g b y) (upd_self (fun k => (f k).2) i))
 · intro j f i hi _ _ _ b y hc
   exact Lay.lift (s := (_, (f i).2)) (congrArg (fun g => L.val j g b y) (upd_self (fun k => (f k).2) i))
def Lay.none : Lay where
 A := Unit
 a0 := ()
 isA := fun _ => Option.none
 enter := fun _ _ => ()
 okAt := fun _ _ => False
 put := fun _ _ => Option.none
 turn := fun _ _ => ()
 cel := fun _ _ => False
 val := fun _ _ _ _ => .nilFunc
 J := fun _ _ _ => True
 mu := fun _ => 0
 C := 1
theorem Lay.none_ok (pp : PP) : LayOK pp Lay.none where
 pos := Nat.one_pos
 a0 := ⟨rfl, rfl⟩
 enter _ _ _ := Nat.one_pos
 hire _ _ _ _ _ _ _ := trivial
 meet _ _ _ _ _ _ _ _ _ _ _ _ _ := trivial
 ends _ _ _ _ _ _ _ := trivial
 shut _ _ _ _ := trivial
 atom _ _ _ _ _ _ _ _ _ h := by cases h
 vHire _ _ _ _ h := h.elim
 vGot _ _ _ _ _ _ _ _ h := h.elim
end Go.Proofs.Ytblpmdolclalnaa
namespace Go.Proofs.Ytblpmdolclalnaa
open Go.Conc Go.RowKit Go.Conc.Lib Go.ConcR.Gen Go.ConcN.Gen
open Go.ConcR (WgAt KK stA smA rd wr mk DC0)
open Go.ConcN (WgLive)
noncomputable def body27 : Code := Try.f27.body.getD .skip
noncomputable def lp27 : Code := lpOf body27
structure WkF (own : Nat → Prop) (Got : Cells) (Rd : Nat → Prop) (Wg e8 e4 c : Nat) (fv : Value) (X : World → Prop) (w : World) : Prop where
 live : WgLive 66 Wg w
 rd : Rd e8 ∧ Rd e4
 jobs : w.cell? ⟨e8, 0, none⟩ = some (.chan (some c))
 fn : w.cell? ⟨e4, 0, none⟩ = some fv
 x : X w
section
variable {own : Nat → Prop} {Got : Cells} {Rd : Nat → Prop} {Wg e8 e4 c : Nat} {fv : Value} {X : World → Prop} {w w₁ : World}
theorem WkF.rely (hX : Firm own Got Rd Wg X) (h : WkF own Got Rd Wg e8 e4 c fv X w) (r : KR 66 Wg own Got Rd w w₁) : WkF own Got Rd Wg e8 e4 c fv X w₁ :=
 ⟨r.live h.live, h.rd, (r.cell e8 0 (cell_lt h.jobs) (.inr (.inr h.rd.1))).trans h.jobs, (r.cell e4 0 (cell_lt h.fn) (.inr (.inr h.rd.2))).trans h.fn, hX _ _ r h.x⟩
noncomputable def wkAt (Wg : Nat) (T : Array Value) : Goroutine := G ((baseD 27).at ⟨T, [dcall 28 #[ptr Wg]]⟩ (atRecv lp27)) [bot]
structure WkT (Wg e8 e4 c : Nat) (T : Array Value) : Prop where
 size : T.size = 15
 t0 : T[0]? = some (ptr Wg)
 t1 : T[1]? = some (ptr e8)
 t2 : T[2]? = some (ptr e4)
 t4 : T[4]? = some (.chan (some c))
def call27 (Wg e8 e4 : Nat) : Deferred := { target := .fn (.func 27) #[ptr Wg, ptr e8, ptr e4], args := #[] }
theorem born27 (Wg e8 e4 : Nat) (w : World) : stepG Try.prog false (born Try.prog (call27 Wg e8 e4)) w =
   .go (G ((baseD 27).at ⟨#[ptr Wg, ptr e8, ptr e4, undef, undef, undef, undef, undef, undef, undef, undef, undef, undef, undef, undef], []⟩ [.code body27]) [bot]) w #[] := by
 simp [born, call27, stepG, unwind, callDeferred, invoke, callFunc, Try.func27, Try.f27, seen, GStep.after, G, Frame.enter, Frame.at, baseD, bot, body27]
theorem array15 (T : Array Value) (h : T.size = 15) : ∃ v0 v1 v2 v3 v4 v5 v6 v7 v8 v9 v10 v11 v12 v13 v14, T = #[v0, v1, v2, v3, v4, v5, v6, v7, v8, v9, v10, v11, v12, v13, v14] := by
 obtain ⟨l⟩ := T
 match l, h with
 | [v0, v1, v2, v3, v4, v5, v6, v7, v8, v9, v10, v11, v12, v13, v14], _ => exact ⟨v0, v1, v2, v3, v4, v5, v6, v7, v8, v9, v10, v11, v12, v13, v14, rfl⟩
set_option maxRecDepth 100000 in
theorem wk_born (hX : Firm own Got Rd Wg X) (hF : WkF own Got Rd Wg e8 e4 c fv X w) :
   Goes Try.prog false (KR 66 Wg own Got Rd) (KD Wg own Got Rd) (fun g w => ∃ T, WkT Wg e8 e4 c T ∧ g = wkAt Wg T ∧ WkF own Got Rd Wg e8 e4 c fv X w) 30 (born Try.prog (call27 Wg e8 e4)) w := by
 have hD : ∀ w, KD Wg own Got Rd w w #[] := fun w => Gua.idle w
 have rl : ∀ {w w₁ : World}, WkF own Got Rd Wg e8 e4 c fv X w → KR 66 Wg own Got Rd w w₁ → WkF own Got Rd Wg e8 e4 c fv X w₁ := fun h r => h.rely hX r
 refine Goes.step rfl fun w₁ h₁ => ?_
 replace hF := rl hF h₁
 clear h₁
 rw [born27]
 refine ⟨by exact hD _, ?_⟩
 simp only [body27, Try.f27, Option.getD_some]
 repeat (first | (first | ((with_reducible refine g_opG ?_); first | (refine g_unw hD rfl rfl ?_; intro _ h₁; replace hF := rl hF h₁; clear h₁; walk_nrm) | (refine Goes.step rfl ?_; intro _ h₁; replace hF := rl hF h₁; clear h₁; refine goes_oper_k rfl rfl (by k_ne) fun K hK => ?_; go_simp; refine hK _ _ ⟨g_idle hD fun e he => by have hm := mem_listed he; simp [go_sem, *] at hm, ?_⟩; clear hK K; try w_num) | ((with_reducible refine g_opG ?_); refine Goes.step rfl (fun _ h₁ => ?_); replace hF := rl hF h₁; clear h₁; rw [stepG_defer rfl rfl (by k_ne) rfl]; simp only [goes_go]; refine ⟨hD _, ?_⟩; walk_nrm)) | ((first | ((with_reducible refine g_c (k' := ?_) true true hD ?_ ?_); rotate_left; focus exact rfl) | with_reducible refine g_r hD rfl ?_); intro _ h₁; replace hF := rl hF h₁; clear h₁)))
 (refine Goes.step rfl (fun _ h₁ => ?_); replace hF := rl hF h₁; clear h₁)
 refine goes_oper_k rfl rfl (by decide) (fun K hK => ?_)
 have h1 := hF.jobs
 go_simp
 refine hK _ _ ⟨gua_read fun e he => ?_, ?_⟩
 · have hm := mem_listed he
   simp [go_sem, h1] at hm
   exact ⟨_, hm, cell_lt h1, .inr (.inr (.inr hF.rd.1))⟩
 clear hK K h1
 try walk_nrm
 repeat ((first | ((with_reducible refine g_opG ?_); first | (refine g_unw hD rfl rfl ?_; intro _ h₁; replace hF := rl hF h₁; clear h₁; walk_nrm) | (refine Goes.step rfl ?_; intro _ h₁; replace hF := rl hF h₁; clear h₁; refine goes_oper_k rfl rfl (by k_ne) fun K hK => ?_; go_simp; refine hK _ _ ⟨g_idle hD fun e he => by have hm := mem_listed he; simp [go_sem, *] at hm, ?_⟩; clear hK K; try w_num)) | ((first | ((with_reducible refine g_c (k' := ?_) true true hD ?_ ?_); rotate_left; focus exact rfl) | with_reducible refine g_r hD rfl ?_); intro _ h₁; replace hF := rl hF h₁; clear h₁)))
 exact Goes.stop fun w₂ h₂ => ⟨#[ptr Wg, ptr e8, ptr e4, undef, .chan (some c), undef, undef, undef, undef, undef, undef, undef, undef, undef, undef], ⟨rfl, rfl, rfl, rfl, rfl⟩, by rfl, rl hF h₂⟩
theorem quits27 (T : Array Value) : QuitsD Try.prog 2 0 (G { (baseD 27).at ⟨T, []⟩ [] with mode := .returning } [bot]) := by
 refine QuitsD.ctl (g' := G bot []) rfl (fun w => ?_) ?_
 · simp [G, stepG, unwind, doReturn, results, Frame.at, baseD, bot, Try.func27, Try.f27, seen, GStep.after, goexitEntry]
 refine QuitsD.ctl (g' := { G bot [] with status := .finished }) rfl (fun w => ?_) ⟨rfl, rfl⟩
 simp [G, stepG, unwind, bot, goexitEntry, Frame.catches]
 rfl
set_option maxRecDepth 100000 in
theorem wk_end {Stop : Goroutine → World → Prop} {cc : Array CommCase} {T : Array Value} (hX : Firm own Got Rd Wg X) (hT : WkT Wg e8 e4 c T) {z : Value} (hF : WkF own Got Rd Wg e8 e4 c fv X w)
   (hS : ∀ g w, AtRel0 Try.prog 66 Wg g w → WkF own Got Rd Wg e8 e4 c fv X w → Stop g w) :
   Goo Try.prog false own (KR 66 Wg own Got Rd) (KD Wg own Got Rd) Stop 60 ((wkAt Wg T).finishComm Try.prog cc (.recv true) 0 z false) w := by
 have hD : ∀ w, KD Wg own Got Rd w w #[] := fun w => Gua.idle w
 have rl : ∀ {w w₁ : World}, WkF own Got Rd Wg e8 e4 c fv X w → KR 66 Wg own Got Rd w w₁ → WkF own Got Rd Wg e8 e4 c fv X w₁ := fun h r => h.rely hX r
 obtain ⟨hs, t0, t1, t2, t4⟩ := hT
 obtain ⟨v0, v1, v2, v3, v4, v5, v6, v7, v8, v9, v10, v11, v12, v13, v14, rfl⟩ := array15 T hs
 simp only [List.getElem?_toArray, List.getElem?_cons_zero, List.getElem?_cons_succ, Option.some.injEq] at t0 t1 t2 t4
 subst t0 t1 t2 t4
 clear hs
 simp only [wkAt, atRecv, lp27, lpOf, body27, Try.f27, Option.getD_some]
 rw [finish_recv]
 refine Goo.of_goes (n := 60) ?_
 walk_nrm
 repeat ((first | ((with_reducible refine g_opG ?_); first | (refine g_unw hD rfl rfl ?_; intro _ h₁; replace hF := rl hF h₁; clear h₁; walk_nrm) | (refine Goes.step rfl ?_; intro _ h₁; replace hF := rl hF h₁; clear h₁; refine goes_oper_k rfl rfl (by k_ne) fun K hK => ?_; go_simp; refine hK _ _ ⟨g_idle hD fun e he => by have hm := mem_listed he; simp [go_sem, *] at hm, ?_⟩; clear hK K; try w_num)) | ((first | ((with_reducible refine g_c (k' := ?_) true true hD ?_ ?_); rotate_left; focus exact rfl) | with_reducible refine g_r hD rfl ?_); intro _ h₁; replace hF := rl hF h₁; clear h₁)))
 (refine Goes.step rfl (fun _ h₁ => ?_); replace hF := rl hF h₁; clear h₁)
 rw [stepG_unwind_enter rfl Try.func28 (nm_done Try.link) rfl]
 simp only [goes_go]
 refine ⟨by exact hD _, ?_⟩
 walk_nrmf Try.f28
 have hA := @wg_done Try.link Try.prog Try.wgLib Wg (KR 66 Wg own Got Rd) (KD Wg own Got Rd) (WkF own Got Rd Wg e8 e4 c fv X) (fun h r => ⟨h.1.rely hX r, r.live h.2⟩) hD
 simp only [body_done, doneFn, Option.getD_some] at hA
 exact (goes_imp (fun g w h => hS g w h.1 h.2) (hA rfl (quits27 _) _ ⟨hF, hF.live⟩)).mono (by omega)
end
end Go.Proofs.Ytblpmdolclalnaa
