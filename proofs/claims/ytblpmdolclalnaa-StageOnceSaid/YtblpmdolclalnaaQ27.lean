/- The law StageOnce: its pieces, from call to call. Made by gen_onp.py. -/
import Derived.Test.YtblpmdolclalnaaQ22
import Derived.Test.YtblpmdolclalnaaQ24
import Derived.Test.YtblpmdolclalnaaQ25
import Derived.Test.YtblpmdolclalnaaQ26
import Derived.Laws.MakeOwn
set_option maxHeartbeats 16000000
set_option linter.unusedSimpArgs false
set_option linter.unusedVariables false
namespace Go.Proofs.Ytblpmdolclalnaa
open Go.Conc Go.RowKit Go.Conc.Lib Go.ConcR.Gen Go.ConcN.Gen
theorem array77 (T : Array Value) (h : T.size = 77) : ∃ v : Nat → Value, T = #[v 0, v 1, v 2, v 3, v 4, v 5, v 6, v 7, v 8, v 9, v 10, v 11, v 12, v 13, v 14, v 15, v 16, v 17, v 18, v 19, v 20, v 21, v 22, v 23, v 24, v 25, v 26, v 27, v 28, v 29, v 30, v 31, v 32, v 33, v 34, v 35, v 36, v 37, v 38, v 39, v 40, v 41, v 42, v 43, v 44, v 45, v 46, v 47, v 48, v 49, v 50, v 51, v 52, v 53, v 54, v 55, v 56, v 57, v 58, v 59, v 60, v 61, v 62, v 63, v 64, v 65, v 66, v 67, v 68, v 69, v 70, v 71, v 72, v 73, v 74, v 75, v 76] := by
 have e := array_of T
 rw [h] at e
 exact ⟨fun i => T.getD i undef, e.trans rfl⟩
noncomputable def body8 : Code := Try.f8.body.getD .skip
noncomputable def tl8 : Nat → Code | 0 => body8 | n + 1 => cS (tl8 n)
structure Info53 (i : TypeInfo) (z : Value) : Prop where
 info : Try.prog.info? 53 = some i
 zero : i.zero = some z
 size : i.size = 1
 bytes : i.bytes = 4
 cells : z.cells = #[.int .i32 0]
theorem info53 : ∃ i z, Info53 i z := by
 have h0 : (Try.prog.info? 53).isSome = true := by kernel_rfl
 have h1 : ((Try.prog.info? 53).get h0).zero.isSome = true := by kernel_rfl
 exact ⟨(Try.prog.info? 53).get h0, ((Try.prog.info? 53).get h0).zero.get h1, by simp, by simp, by kernel_rfl, by kernel_rfl, by kernel_rfl⟩
theorem made53 {k : Nat} {i : TypeInfo} {z : Value} (h : Info53 i z) : madeCells z.cells (k * i.size) = Array.replicate k (.int .i32 0) := by
 rw [h.cells, h.size, Nat.mul_one]
 refine Array.ext (by simp [madeCells]) fun j h1 h2 => ?_
 simp [madeCells, Nat.mod_one]
section
variable {w : World} {k : Nat} {es : Array Event}
theorem run_mk49 (hk : k < 256) : (Instr.makeSlice 49 (.int .i64 k) (.int .i64 k)).run Try.prog w = .ok (.slice (some ⟨w.heap.size, 0, none⟩) k k) (w.alloc (.cells (Array.replicate k (.int .i32 0)) 53)) := by
 obtain ⟨i, z, h⟩ := info53
 have := run_make (P := Try.prog) w 49 53 i z Try.underlying49 h.info h.zero .i64 .i64 (k : Int) (k : Int) (by omega) (by omega) (by rw [h.bytes]; omega) (by omega)
 simp only [Int.toNat_natCast] at this
 rw [this, made53 h]
theorem events_mk49 (hk : k < 256) : (Instr.makeSlice 49 (.int .i64 k) (.int .i64 k)).events Try.prog w es = es := by
 obtain ⟨i, z, h⟩ := info53
 have wl : IntKind.i64.wrap (k : Int) = k := by rw [IntKind.wrap_i64]; omega
 have n1 : ¬ (k : Int) < 0 := by omega
 have n2 : ¬ (281474976710656 < (i.bytes : Int) * (k : Int)) := by rw [h.bytes]; omega
 have n5 : ¬ (k * i.bytes > roomBytes) := by rw [h.bytes]; simp only [roomBytes]; omega
 by_cases hn : k * i.size = 0
 · simp [go_sem, Instr.makeSlice, run_underlying Try.underlying49, asInt, asIntOf, typeInfo, h.info, sizeOf, wl, n1, n2, askRoom, n5]
 · simp [go_sem, Instr.makeSlice, run_underlying Try.underlying49, asInt, asIntOf, typeInfo, h.info, sizeOf, zeroValue, h.zero, wl, n1, n2, askRoom, n5]
end
section
variable {Shun : Nat → Prop} {n0 n k : Nat} {w0 w : World} {Given : Cells} {cs : List Frame} {b1 : Int}
set_option maxRecDepth 100000 in
theorem oc0 {Stop : Goroutine → World → Prop} (hsh : ∀ b, Shun b → b < n0) (hn : n < 256) (hk16 : k < 16) (hk : b1.tmod 16 = (k : Int)) (hF : Fresh n0 w0 Given [] w)
   (hgo : ∀ T w, Fresh n0 w0 Given [.cells #[.int .u8 n] 5, .cells (Array.replicate n (.int .i32 0)) 53, .cells #[.slice (some ⟨n0 + 1, 0, none⟩) n n] 49, cnt32 0, cnt32 0, cnt32 0] w → T.size = 77 → T[2]? = some (ptr n0) → T[5]? = some (.int .i64 (k + 1 : Nat)) → T[6]? = some (ptr (n0 + 2)) → T[7]? = some (ptr (n0 + 3)) → T[8]? = some (ptr (n0 + 4)) → T[9]? = some (ptr (n0 + 5)) →
     Stop (G ((base 11).at ⟨#[.int .i64 (k + 1 : Nat), .func (.func 23) #[] #[ptr (n0 + 3), ptr (n0 + 4), ptr (n0 + 2)], .func (.func 21) #[] #[ptr n0, ptr (n0 + 5)], undef, undef, undef, undef, undef, undef, undef, undef, undef, undef, undef, undef, undef, undef, undef, undef, undef, undef, undef, undef, undef, undef, undef, undef, undef, undef, undef, undef, undef, undef, undef, undef, undef, undef, undef, undef, undef, undef, undef, undef, undef, undef, undef, undef, undef, undef, undef, undef, undef, undef, undef, undef, undef, undef, undef, undef, undef, undef, undef, undef, undef], []⟩ [.code bodyM]) ((base 8).at ⟨T, []⟩ (.inRegion (cO (cF (tl8 6))) [3, 4, 5, 6, 7, 8] :: [.code (tl8 7)]) :: cs)) w) :
   Goes Try.prog true AtRel (SD Shun) Stop 90 (G ((base 8).at ⟨#[.int .u8 n, .int .u8 b1, undef, undef, undef, undef, undef, undef, undef, undef, undef, undef, undef, undef, undef, undef, undef, undef, undef, undef, undef, undef, undef, undef, undef, undef, undef, undef, undef, undef, undef, undef, undef, undef, undef, undef, undef, undef, undef, undef, undef, undef, undef, undef, undef, undef, undef, undef, undef, undef, undef, undef, undef, undef, undef, undef, undef, undef, undef, undef, undef, undef, undef, undef, undef, undef, undef, undef, undef, undef, undef, undef, undef, undef, undef, undef, undef], []⟩ [.code body8]) cs) w := by
 have hD : ∀ w, SD Shun w w #[] := sd_idle
 have rl : ∀ {l : List Obj} {w w₁ : World}, Fresh n0 w0 Given l w → AtRel w w₁ → Fresh n0 w0 Given l w₁ := fun h r => Fresh.steady.rel h r
 have hw1 : IntKind.i64.wrap (k : Int) = (k : Int) := by rw [IntKind.wrap_i64]; omega
 have hw2 : IntKind.i64.wrap (1 + (k : Int)) = ((k + 1 : Nat) : Int) := by rw [IntKind.wrap_i64]; omega
 have hw3 : IntKind.i64.wrap (n : Int) = (n : Int) := by rw [IntKind.wrap_i64]; omega
 replace hgo := Hd.mk hgo
 simp only [tl8, cS, cF, cI, cO, body8, Try.f8, Option.getD_some, bodyM, Try.f11] at hgo ⊢
 repeat ((first | ((first | ((with_reducible refine g_c (k' := ?_) true true hD ?_ ?_); rotate_left; focus exact rfl) | with_reducible refine g_r hD rfl ?_); intro _ h₁; replace hF := rl hF h₁; clear h₁)))
 refine Goes.step rfl fun w₁ h₁ => ?_
 replace hF := rl hF h₁
 clear h₁
 refine goes_oper_k rfl rfl (by decide) (fun K hK => ?_)
 go_simp
 refine hK _ _ ⟨sd_new (by simp) (fun e he => ?_), ?_⟩
 · have hm := mem_listed he
   simp [go_sem] at hm
 clear hK K
 have hsz : w₁.heap.size = n0 + 0 := hF.size
 replace hF := hF.alloc (.cells #[.int .u8 n] 5)
 simp only [List.nil_append, List.cons_append] at hF
 rw [hsz]
 clear hsz
 generalize w₁.alloc (.cells #[.int .u8 n] 5) = w₂ at hF ⊢
 clear w₁
 try walk_nrm
 repeat ((first | ((with_reducible refine g_opG ?_); first | (refine g_unw hD rfl rfl ?_; intro _ h₁; replace hF := rl hF h₁; clear h₁; walk_nrm) | (refine Goes.step rfl ?_; intro _ h₁; replace hF := rl hF h₁; clear h₁; refine goes_oper_k rfl rfl (by k_ne) fun K hK => ?_; go_simp; refine hK _ _ ⟨?_, ?_⟩; (focus (refine g_idle hD ?_; intro e he; have hm := mem_listed he; simp [go_sem, *] at hm; done)); clear hK K; try w_num)) | ((first | ((with_reducible refine g_c (k' := ?_) true true hD ?_ ?_); rotate_left; focus exact rfl) | with_reducible refine g_r hD rfl ?_); intro _ h₁; replace hF := rl hF h₁; clear h₁)))
 refine Goes.step rfl fun w₁ h₁ => ?_
 replace hF := rl hF h₁
 clear h₁
 refine goes_oper_k rfl rfl (by decide) (fun K hK => ?_)
 have h1 : w₁.cell? ⟨n0, 0, none⟩ = some (.int .u8 n) := hF.cell (i := 0) rfl
 go_simp
 refine hK _ _ ⟨sd_read fun e he => ?_, ?_⟩
 · have hm := mem_listed he
   simp [go_sem, h1] at hm
   exact ⟨_, _, _, hm, fun hx => (by have : n0 < n0 := hsh _ hx; omega), cell_lt h1⟩
 clear hK K h1
 try walk_nrm
 repeat ((first | ((with_reducible refine g_opG ?_); first | (refine g_unw hD rfl rfl ?_; intro _ h₁; replace hF := rl hF h₁; clear h₁; walk_nrm) | (refine Goes.step rfl ?_; intro _ h₁; replace hF := rl hF h₁; clear h₁; refine goes_oper_k rfl rfl (by k_ne) fun K hK => ?_; go_simp; refine hK _ _ ⟨?_, ?_⟩; (focus (refine g_idle hD ?_; intro e he; have hm := mem_listed he; simp [go_sem, *] at hm; done)); clear hK K; try w_num)) | ((first | ((with_reducible refine g_c (k' := ?_) true true hD ?_ ?_); rotate_left; focus exact rfl) | with_reducible refine g_r hD rfl ?_); intro _ h₁; replace hF := rl hF h₁; clear h₁)))
 refine Goes.step rfl fun w₁ h₁ => ?_
 replace hF := rl hF h₁
 clear h₁
 refine goes_oper_k rfl rfl (by decide) (fun K hK => ?_)
 have hmk := run_mk49 (w := w₁) hn
 go_simp
 refine hK _ _ ⟨sd_new (by simp) (fun e he => ?_), ?_⟩
 · have hm := mem_listed he
   simp [go_sem, events_mk49 hn] at hm
 clear hK K hmk
 have hsz : w₁.heap.size = n0 + 1 := hF.size
 replace hF := hF.alloc (.cells (Array.replicate n (.int .i32 0)) 53)
 simp only [List.nil_append, List.cons_append] at hF
 rw [hsz]
 clear hsz
 generalize w₁.alloc (.cells (Array.replicate n (.int .i32 0)) 53) = w₂ at hF ⊢
 clear w₁
 try walk_nrm
 repeat ((first | ((with_reducible refine g_opG ?_); first | (refine g_unw hD rfl rfl ?_; intro _ h₁; replace hF := rl hF h₁; clear h₁; walk_nrm) | (refine Goes.step rfl ?_; intro _ h₁; replace hF := rl hF h₁; clear h₁; refine goes_oper_k rfl rfl (by k_ne) fun K hK => ?_; go_simp; refine hK _ _ ⟨?_, ?_⟩; (focus (refine g_idle hD ?_; intro e he; have hm := mem_listed he; simp [go_sem, *] at hm; done)); clear hK K; try w_num)) | ((first | ((with_reducible refine g_c (k' := ?_) true true hD ?_ ?_); rotate_left; focus exact rfl) | with_reducible refine g_r hD rfl ?_); intro _ h₁; replace hF := rl hF h₁; clear h₁)))
 refine Goes.step rfl fun w₁ h₁ => ?_
 replace hF := rl hF h₁
 clear h₁
 refine goes_oper_k rfl rfl (by decide) (fun K hK => ?_)
 go_simp
 refine hK _ _ ⟨sd_new (by simp) (fun e he => ?_), ?_⟩
 · have hm := mem_listed he
   simp [go_sem] at hm
 clear hK K
 have hsz : w₁.heap.size = n0 + 2 := hF.size
 replace hF := hF.alloc (.cells #[.slice none 0 0] 49)
 simp only [List.nil_append, List.cons_append] at hF
 rw [hsz]
 clear hsz
 generalize w₁.alloc (.cells #[.slice none 0 0] 49) = w₂ at hF ⊢
 clear w₁
 try walk_nrm
 refine Goes.step rfl fun w₁ h₁ => ?_
 replace hF := rl hF h₁
 clear h₁
 refine goes_oper_k rfl rfl (by decide) (fun K hK => ?_)
 have h1 := hF.cell (i := 2) rfl
 have hfz := frozen_of (hF.obj 2 _ rfl) 0
 go_simp
 try (unfold stored; go_simp)
 refine hK _ _ ⟨sd_set (a := ⟨n0 + 2, 0, none⟩) (fun hx => by have : n0 + 2 < n0 := hsh _ hx; omega) (cell_lt h1) fun e he => ?_, ?_⟩
 · have hm := mem_listed he
   simp [go_sem, storedEv, h1, hfz] at hm
   exact hm
 clear hK K h1 hfz
 replace hF := hF.set (i := 2) (v := .slice (some ⟨n0 + 1, 0, none⟩) n n) rfl
 simp only [List.set_cons_succ, List.set_cons_zero] at hF
 generalize w₁.setCell _ _ = w₂ at hF ⊢
 clear w₁
 try walk_nrm
 repeat ((first | ((with_reducible refine g_opG ?_); first | (refine g_unw hD rfl rfl ?_; intro _ h₁; replace hF := rl hF h₁; clear h₁; walk_nrm) | (refine Goes.step rfl ?_; intro _ h₁; replace hF := rl hF h₁; clear h₁; refine goes_oper_k rfl rfl (by k_ne) fun K hK => ?_; go_simp; refine hK _ _ ⟨?_, ?_⟩; (focus (refine g_idle hD ?_; intro e he; have hm := mem_listed he; simp [go_sem, *] at hm; done)); clear hK K; try w_num)) | ((first | ((with_reducible refine g_c (k' := ?_) true true hD ?_ ?_); rotate_left; focus exact rfl) | with_reducible refine g_r hD rfl ?_); intro _ h₁; replace hF := rl hF h₁; clear h₁)))
 refine Goes.step rfl fun w₁ h₁ => ?_
 replace hF := rl hF h₁
 clear h₁
 refine goes_oper_k rfl rfl (by decide) (fun K hK => ?_)
 go_simp
 refine hK _ _ ⟨sd_new (by simp) (fun e he => ?_), ?_⟩
 · have hm := mem_listed he
   simp [go_sem] at hm
 clear hK K
 have hsz : w₁.heap.size = n0 + 3 := hF.size
 replace hF := hF.alloc (.cells #[.int .i32 0] 53)
 simp only [List.nil_append, List.cons_append] at hF
 rw [hsz]
 clear hsz
 generalize w₁.alloc (.cells #[.int .i32 0] 53) = w₂ at hF ⊢
 clear w₁
 try walk_nrm
 refine Goes.step rfl fun w₁ h₁ => ?_
 replace hF := rl hF h₁
 clear h₁
 refine goes_oper_k rfl rfl (by decide) (fun K hK => ?_)
 go_simp
 refine hK _ _ ⟨sd_new (by simp) (fun e he => ?_), ?_⟩
 · have hm := mem_listed he
   simp [go_sem] at hm
 clear hK K
 have hsz : w₁.heap.size = n0 + 4 := hF.size
 replace hF := hF.alloc (.cells #[.int .i32 0] 53)
 simp only [List.nil_append, List.cons_append] at hF
 rw [hsz]
 clear hsz
 generalize w₁.alloc (.cells #[.int .i32 0] 53) = w₂ at hF ⊢
 clear w₁
 try walk_nrm
 refine Goes.step rfl fun w₁ h₁ => ?_
 replace hF := rl hF h₁
 clear h₁
 refine goes_oper_k rfl rfl (by decide) (fun K hK => ?_)
 go_simp
 refine hK _ _ ⟨sd_new (by simp) (fun e he => ?_), ?_⟩
 · have hm := mem_listed he
   simp [go_sem] at hm
 clear hK K
 have hsz : w₁.heap.size = n0 + 5 := hF.size
 replace hF := hF.alloc (.cells #[.int .i32 0] 53)
 simp only [List.nil_append, List.cons_append] at hF
 rw [hsz]
 clear hsz
 generalize w₁.alloc (.cells #[.int .i32 0] 53) = w₂ at hF ⊢
 clear w₁
 try walk_nrm
 repeat ((first | ((with_reducible refine g_opG ?_); first | (refine g_unw hD rfl rfl ?_; intro _ h₁; replace hF := rl hF h₁; clear h₁; walk_nrm) | (refine Goes.step rfl ?_; intro _ h₁; replace hF := rl hF h₁; clear h₁; refine goes_oper_k rfl rfl (by k_ne) fun K hK => ?_; go_simp; refine hK _ _ ⟨?_, ?_⟩; (focus (refine g_idle hD ?_; intro e he; have hm := mem_listed he; simp [go_sem, *] at hm; done)); clear hK K; try w_num)) | ((first | ((with_reducible refine g_c (k' := ?_) true true hD ?_ ?_); rotate_left; focus exact rfl) | with_reducible refine g_r hD rfl ?_); intro _ h₁; replace hF := rl hF h₁; clear h₁)))
 ((with_reducible refine g_opG ?_); refine Goes.step rfl (fun _ h₁ => ?_); replace hF := rl hF h₁; clear h₁; refine goes_call rfl rfl (by k_ne) rfl Try.func11 rfl rfl ⟨hD _, ?_⟩; walk_nrmf Try.f11)
 exact Goes.stop fun w₃ h₃ => hgo.out _ _ (rl hF h₃) rfl rfl rfl rfl rfl rfl rfl
end
end Go.Proofs.Ytblpmdolclalnaa
