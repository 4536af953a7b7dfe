/- Map[int,int]: a call by goroutine 0, whole; the calls that are refused. Made by mp.py. A region that draws its order and only reads: whatever the order, the same values come. Conditions: each operation's value is known as soon as those that it waits for are done. Goroutine 0 alone: what a call keeps of the memory; the laws' small functions: function, seq, small, the .. -/
import Derived.Test.YtblpmdolclalnaaQ01
import Derived.Test.YtblpmdolclalnaaQ09
import Derived.Test.YtblpmdolclalnaaQ21
set_option maxHeartbeats 16000000
set_option linter.unusedSimpArgs false
set_option linter.unusedVariables false
namespace Go.Proofs.Ytblpmdolclalnaa
open Go.Conc Go.RowKit Go.Conc.Lib Go.ConcR.Gen Go.ConcN.Gen
open Go.ConcR (WgAt KK stA smA rd wr mk DC0)
open Go.ConcN (WgLive)
--@extra@
theorem bytesJ : ∃ i, Try.prog.info? 70 = some i ∧ i.bytes ≤ 64 := by
 have h : (Try.prog.info? 70).map (fun i => decide (i.bytes ≤ 64)) = some true := by kernel_rfl
 obtain ⟨i, hi, hb⟩ := Option.map_eq_some_iff.1 h
 exact ⟨i, hi, of_decide_eq_true hb⟩
@[go_sem] theorem mkC (w : World) : (Instr.makeChan 58 (.int .i64 0)).run Try.prog w = .ok (.chan (some w.heap.size)) (w.alloc (.chan 0 #[] false 0 0 false)) := by
 obtain ⟨i, hi, hb⟩ := bytesJ
 simpa using run_makeChan (P := Try.prog) (w := w) Try.underlying58 hi .i64 0 (by omega) (by omega)
@[go_sem] theorem mkCe (w : World) (es : Array Event) : (Instr.makeChan 58 (.int .i64 0)).events Try.prog w es = es := by
 obtain ⟨i, hi, hb⟩ := bytesJ
 simpa using events_makeChan (P := Try.prog) (w := w) Try.underlying58 hi .i64 0 (by omega) (by omega) es
section
variable {Shun : Nat → Prop} {n0 : Nat} {w0 w : World} {Given : Cells} {cs : List Frame}
set_option maxRecDepth 100000 in
theorem mp_open {Stop : Goroutine → World → Prop} (hsh : ∀ b, Shun b → b < n0) {K : Nat} (hK1 : 0 < K) (hK : K ≤ 16) {f f' : Fn} {fr fr' cp cp' : Array Value} (hF : Fresh n0 w0 Given [] w)
   (hgo : ∀ T w, Fresh n0 w0 Given [.cells #[.func f fr cp] 28 (0, 0), .chan 0 #[] false 0 0 false, .cells #[.chan (some (n0 + 1))] 58 (0, 0), .cells #[.int .u64 0, .int .u32 0] 66 (0, 0)] w →
     T.size = 64 → T[0]? = some (.int .i64 K) → T[2]? = some (.func f' fr' cp') → T[4]? = some (ptr n0) → T[8]? = some (ptr (n0 + 2)) → T[9]? = some (ptr (n0 + 3)) → Stop (G ((base 11).at ⟨T, []⟩ [.code (tlM 4)]) cs) w) :
   Goes Try.prog true AtRel (SD Shun) Stop 60 (G ((base 11).at ⟨#[.int .i64 K, .func f fr cp, .func f' fr' cp', undef, undef, undef, undef, undef, undef, undef, undef, undef, undef, undef, undef, undef, undef, undef, undef, undef, undef, undef, undef, undef, undef, undef, undef, undef, undef, undef, undef, undef, undef, undef, undef, undef, undef, undef, undef, undef, undef, undef, undef, undef, undef, undef, undef, undef, undef, undef, undef, undef, undef, undef, undef, undef, undef, undef, undef, undef, undef, undef, undef, undef], []⟩ [.code bodyM]) cs) w := by
 have hD : ∀ w, SD Shun w w #[] := sd_idle
 have rl : ∀ {l : List Obj} {w w₁ : World}, Fresh n0 w0 Given l w → AtRel w w₁ → Fresh n0 w0 Given l w₁ := fun h r => Fresh.steady.rel h r
 have hlt : decide ((K : Int) < 1) = false := decide_eq_false (by omega)
 have hgt : decide ((16 : Int) < (K : Int)) = false := decide_eq_false (by omega)
 replace hgo := Hd.mk hgo
 simp only [tlM, cS, bodyM, Try.f11, Option.getD_some] at hgo ⊢
 repeat ((first | ((first | ((with_reducible refine g_c (k' := ?_) true true hD ?_ ?_); rotate_left; focus exact rfl) | with_reducible refine g_r hD rfl ?_); intro _ h₁; replace hF := rl hF h₁; clear h₁)))
 refine Goes.step rfl fun w₁ h₁ => ?_
 replace hF := rl hF h₁
 clear h₁
 refine goes_oper_k rfl rfl (by decide) (fun K hK => ?_)
 go_simp
 refine hK _ _ ⟨sd_new (by simp) (fun e he => ?_), ?_⟩
 · have hm := mem_listed he
   simp [go_sem] at hm
 clear hK K
 have hsz : w₁.heap.size = n0 + 0 := hF.size
 replace hF := hF.alloc (.cells #[.func f fr cp] 28)
 simp only [List.nil_append] at hF
 rw [hsz]
 clear hsz
 generalize w₁.alloc (.cells #[.func f fr cp] 28) = w₂ at hF ⊢
 clear w₁
 try walk_nrm
 repeat ((first | ((with_reducible refine g_opG ?_); first | (refine g_unw hD rfl rfl ?_; intro _ h₁; replace hF := rl hF h₁; clear h₁; walk_nrm) | (refine Goes.step rfl ?_; intro _ h₁; replace hF := rl hF h₁; clear h₁; refine goes_oper_k rfl rfl (by k_ne) fun K hK => ?_; go_simp; refine hK _ _ ⟨g_idle hD fun e he => by have hm := mem_listed he; simp [go_sem, *] at hm, ?_⟩; clear hK K; try w_num)) | ((first | ((with_reducible refine g_c (k' := ?_) true true hD ?_ ?_); rotate_left; focus exact rfl) | with_reducible refine g_r hD rfl ?_); intro _ h₁; replace hF := rl hF h₁; clear h₁)))
 refine Goes.step rfl fun w₁ h₁ => ?_
 replace hF := rl hF h₁
 clear h₁
 refine goes_oper_k rfl rfl (by decide) (fun K hK => ?_)
 have h1 : w₁.cell? ⟨n0, 0, none⟩ = some (.func f fr cp) := hF.cell (i := 0) rfl
 go_simp
 refine hK _ _ ⟨sd_read fun e he => ?_, ?_⟩
 · have hm := mem_listed he
   simp [go_sem, h1] at hm
   exact ⟨_, _, _, hm, fun hx => (by have : n0 < n0 := hsh _ hx; omega), cell_lt h1⟩
 clear hK K h1
 try walk_nrm
 repeat ((first | ((with_reducible refine g_opG ?_); first | (refine g_unw hD rfl rfl ?_; intro _ h₁; replace hF := rl hF h₁; clear h₁; walk_nrm) | (refine Goes.step rfl ?_; intro _ h₁; replace hF := rl hF h₁; clear h₁; refine goes_oper_k rfl rfl (by k_ne) fun K hK => ?_; go_simp; refine hK _ _ ⟨g_idle hD fun e he => by have hm := mem_listed he; simp [go_sem, *] at hm, ?_⟩; clear hK K; try w_num)) | ((first | ((with_reducible refine g_c (k' := ?_) true true hD ?_ ?_); rotate_left; focus exact rfl) | with_reducible refine g_r hD rfl ?_); intro _ h₁; replace hF := rl hF h₁; clear h₁)))
 refine Goes.step rfl fun w₁ h₁ => ?_
 replace hF := rl hF h₁
 clear h₁
 refine goes_oper_k rfl rfl (by decide) (fun K hK => ?_)
 go_simp
 refine hK _ _ ⟨sd_new (by simp) (fun e he => ?_), ?_⟩
 · have hm := mem_listed he
   simp [go_sem] at hm
 clear hK K
 have hsz : w₁.heap.size = n0 + 1 := hF.size
 replace hF := hF.alloc (.chan 0 #[] false 0 0 false)
 simp only [List.nil_append, List.cons_append] at hF
 rw [hsz]
 clear hsz
 generalize w₁.alloc (.chan 0 #[] false 0 0 false) = w₂ at hF ⊢
 clear w₁
 try walk_nrm
 refine Goes.step rfl fun w₁ h₁ => ?_
 replace hF := rl hF h₁
 clear h₁
 refine goes_oper_k rfl rfl (by decide) (fun K hK => ?_)
 go_simp
 refine hK _ _ ⟨sd_new (by simp) (fun e he => ?_), ?_⟩
 · have hm := mem_listed he
   simp [go_sem] at hm
 clear hK K
 have hsz : w₁.heap.size = n0 + 2 := hF.size
 replace hF := hF.alloc (.cells #[.chan none] 58)
 simp only [List.nil_append, List.cons_append] at hF
 rw [hsz]
 clear hsz
 generalize w₁.alloc (.cells #[.chan none] 58) = w₂ at hF ⊢
 clear w₁
 try walk_nrm
 refine Goes.step rfl fun w₁ h₁ => ?_
 replace hF := rl hF h₁
 clear h₁
 refine goes_oper_k rfl rfl (by decide) (fun K hK => ?_)
 have h1 := hF.cell (i := 2) rfl
 have hfz := frozen_of (hF.obj 2 _ rfl) 0
 go_simp
 try (unfold stored; go_simp)
 refine hK _ _ ⟨sd_set (a := ⟨n0 + 2, 0, none⟩) (fun hx => by have : n0 + 2 < n0 := hsh _ hx; omega) (cell_lt h1) fun e he => ?_, ?_⟩
 · have hm := mem_listed he
   simp [go_sem, storedEv, h1, hfz] at hm
   exact hm
 clear hK K h1 hfz
 replace hF := hF.set (i := 2) (v := .chan (some (n0 + 1))) rfl
 simp only [List.set_cons_succ, List.set_cons_zero] at hF
 generalize w₁.setCell _ _ = w₂ at hF ⊢
 clear w₁
 try walk_nrm
 repeat ((first | ((first | ((with_reducible refine g_c (k' := ?_) true true hD ?_ ?_); rotate_left; focus exact rfl) | with_reducible refine g_r hD rfl ?_); intro _ h₁; replace hF := rl hF h₁; clear h₁)))
 refine Goes.step rfl fun w₁ h₁ => ?_
 replace hF := rl hF h₁
 clear h₁
 refine goes_oper_k rfl rfl (by decide) (fun K hK => ?_)
 go_simp
 refine hK _ _ ⟨sd_new (by simp) (fun e he => ?_), ?_⟩
 · have hm := mem_listed he
   simp [go_sem] at hm
 clear hK K
 have hsz : w₁.heap.size = n0 + 3 := hF.size
 replace hF := hF.alloc (.cells #[.int .u64 0, .int .u32 0] 66)
 simp only [List.nil_append, List.cons_append] at hF
 rw [hsz]
 clear hsz
 generalize w₁.alloc (.cells #[.int .u64 0, .int .u32 0] 66) = w₂ at hF ⊢
 clear w₁
 try walk_nrm
 (first | ((with_reducible refine g_opG ?_); first | (refine g_unw hD rfl rfl ?_; intro _ h₁; replace hF := rl hF h₁; clear h₁; walk_nrm) | (refine Goes.step rfl ?_; intro _ h₁; replace hF := rl hF h₁; clear h₁; refine goes_oper_k rfl rfl (by k_ne) fun K hK => ?_; go_simp; refine hK _ _ ⟨g_idle hD fun e he => by have hm := mem_listed he; simp [go_sem, *] at hm, ?_⟩; clear hK K; try w_num)) | ((first | ((with_reducible refine g_c (k' := ?_) true true hD ?_ ?_); rotate_left; focus exact rfl) | with_reducible refine g_r hD rfl ?_); intro _ h₁; replace hF := rl hF h₁; clear h₁))
 refine Goes.stop fun w₁ h₁ => ?_
 refine hgo.out _ _ (rl hF h₁) ?_ ?_ ?_ ?_ ?_ ?_ <;> rfl
variable {b₀ : Frame} {a₀ : Act} {ops₀ : Array Oper} {i₀ : Nat} {rest₀ : List Nat} {k₀ : List Item}
set_option maxRecDepth 100000 in
theorem mp_size {Stop : Goroutine → World → Prop} (_hsh : ∀ b, Shun b → b < n0) {k : Int} (hk : k < 1 ∨ 16 < k) {f : Fn} {fr cp : Array Value} {inV : Value} (hF : Fresh n0 w0 Given [] w)
   (hgo : ∀ w, Fresh n0 w0 Given [.cells #[.func f fr cp] 28 (0, 0)] w → Stop (G (b₀.at (a₀.put ((ops₀[i₀]?).bind (·.dst)) (.tuple #[.slice none 0 0, .int .i64 1])) (.inRegion ops₀ rest₀ :: k₀)) cs) w) :
   Goes Try.prog true AtRel (SD Shun) Stop 60 (G ((base 11).at ⟨#[.int .i64 k, .func f fr cp, inV, undef, undef, undef, undef, undef, undef, undef, undef, undef, undef, undef, undef, undef, undef, undef, undef, undef, undef, undef, undef, undef, undef, undef, undef, undef, undef, undef, undef, undef, undef, undef, undef, undef, undef, undef, undef, undef, undef, undef, undef, undef, undef, undef, undef, undef, undef, undef, undef, undef, undef, undef, undef, undef, undef, undef, undef, undef, undef, undef, undef, undef], []⟩ [.code bodyM]) (b₀.at a₀ (.inRegion ops₀ (i₀ :: rest₀) :: k₀) :: cs)) w := by
 have hD : ∀ w, SD Shun w w #[] := sd_idle
 have rl : ∀ {l : List Obj} {w w₁ : World}, Fresh n0 w0 Given l w → AtRel w w₁ → Fresh n0 w0 Given l w₁ := fun h r => Fresh.steady.rel h r
 replace hgo := Hd.mk hgo
 simp only [bodyM, Try.f11, Option.getD_some]
 repeat ((first | ((first | ((with_reducible refine g_c (k' := ?_) true true hD ?_ ?_); rotate_left; focus exact rfl) | with_reducible refine g_r hD rfl ?_); intro _ h₁; replace hF := rl hF h₁; clear h₁)))
 refine Goes.step rfl fun w₁ h₁ => ?_
 replace hF := rl hF h₁
 clear h₁
 refine goes_oper_k rfl rfl (by decide) (fun K hK => ?_)
 go_simp
 refine hK _ _ ⟨sd_new (by simp) (fun e he => ?_), ?_⟩
 · have hm := mem_listed he
   simp [go_sem] at hm
 clear hK K
 replace hF := hF.alloc (.cells #[.func f fr cp] 28)
 simp only [List.nil_append] at hF
 generalize w₁.alloc (.cells #[.func f fr cp] 28) = w₂ at hF ⊢
 generalize w₁.heap.size = n1
 clear w₁
 try walk_nrm
 by_cases h1 : k < 1
 · have hlt : decide (k < 1) = true := decide_eq_true h1
   clear h1 hk
   repeat ((first | ((with_reducible refine g_opG ?_); first | (refine g_unw hD rfl rfl ?_; intro _ h₁; replace hF := rl hF h₁; clear h₁; walk_nrm) | (refine Goes.step rfl ?_; intro _ h₁; replace hF := rl hF h₁; clear h₁; refine goes_oper_k rfl rfl (by k_ne) fun K hK => ?_; go_simp; refine hK _ _ ⟨g_idle hD fun e he => by have hm := mem_listed he; simp [go_sem, *] at hm, ?_⟩; clear hK K; try w_num)) | ((first | ((with_reducible refine g_c (k' := ?_) true true hD ?_ ?_); rotate_left; focus exact rfl) | with_reducible refine g_r hD rfl ?_); intro _ h₁; replace hF := rl hF h₁; clear h₁)))
   refine Goes.step rfl fun w₃ h₃ => ?_
   replace hF := rl hF h₃
   clear h₃
   refine goes_leave2 rfl rfl Try.func11 rfl ⟨sd_idle _, ?_⟩
   exact Goes.stop fun w₄ h₄ => hgo.out _ (rl hF h₄)
 · have hlt : decide (k < 1) = false := decide_eq_false h1
   have hgt : decide (16 < k) = true := decide_eq_true (by omega)
   clear h1 hk
   repeat ((first | ((with_reducible refine g_opG ?_); first | (refine g_unw hD rfl rfl ?_; intro _ h₁; replace hF := rl hF h₁; clear h₁; walk_nrm) | (refine Goes.step rfl ?_; intro _ h₁; replace hF := rl hF h₁; clear h₁; refine goes_oper_k rfl rfl (by k_ne) fun K hK => ?_; go_simp; refine hK _ _ ⟨g_idle hD fun e he => by have hm := mem_listed he; simp [go_sem, *] at hm, ?_⟩; clear hK K; try w_num)) | ((first | ((with_reducible refine g_c (k' := ?_) true true hD ?_ ?_); rotate_left; focus exact rfl) | with_reducible refine g_r hD rfl ?_); intro _ h₁; replace hF := rl hF h₁; clear h₁)))
   refine Goes.step rfl fun w₃ h₃ => ?_
   replace hF := rl hF h₃
   clear h₃
   refine goes_leave2 rfl rfl Try.func11 rfl ⟨sd_idle _, ?_⟩
   exact Goes.stop fun w₄ h₄ => hgo.out _ (rl hF h₄)
end
section
variable {m : MpM} {cs : List Frame} {b₀ : Frame} {a₀ : Act} {ops₀ : Array Oper} {i₀ : Nat} {rest₀ : List Nat} {k₀ : List Item}
theorem map_call (hm : MpMOK m) (hcs : m.cs = b₀.at a₀ (.inRegion ops₀ (i₀ :: rest₀) :: k₀) :: cs) (hn : m.w0.heap.size = m.n0) (hWg : m.q.Wg = m.n0 + 3) (hc0 : m.q.c0 = m.n0 + 1) (h8 : m.e8 = m.n0 + 2) (h4 : m.e4 = m.n0) (hsh : ∀ b, m.Shun b → b < m.n0)
   {f : Fn} {fr cp : Array Value} (hfv : m.q.fv = .func f fr cp) {f' : Fn} {fr' cp' : Array Value} (hiv : m.inV = .func f' fr' cp') :
   Lone Try.prog m.n0 (fun S g w => (∀ b, S b → m.Shun b ∨ b = m.n0 + 3) ∧ ∃ v, MpRes m v w ∧ g = G (b₀.at (a₀.put ((ops₀[i₀]?).bind (·.dst)) (.tuple #[v, .int .i64 0])) (.inRegion ops₀ rest₀ :: k₀)) cs) m.Shun
     (G ((base 11).at ⟨#[.int .i64 m.q.K, m.q.fv, m.inV, undef, undef, undef, undef, undef, undef, undef, undef, undef, undef, undef, undef, undef, undef, undef, undef, undef, undef, undef, undef, undef, undef, undef, undef, undef, undef, undef, undef, undef, undef, undef, undef, undef, undef, undef, undef, undef, undef, undef, undef, undef, undef, undef, undef, undef, undef, undef, undef, undef, undef, undef, undef, undef, undef, undef, undef, undef, undef, undef, undef, undef], []⟩ [.code bodyM]) m.cs) m.w0 := by
 have hfr : Fresh m.n0 m.w0 (fun b _ => m.Shun b) [] m.w0 := ⟨Out.refl (Nat.le_of_eq hn.symm), by simpa using hn, fun i o h => by simp at h⟩
 rw [hiv, hfv]
 refine Lone.on (n := 60) (mp_open (cs := m.cs) (n0 := m.n0) (w0 := m.w0) (Given := fun b _ => m.Shun b) hsh hm.one hm.few hfr fun T w2 hF2 hs t0 t2 t4 t8 t9 _ => ?_)
 have hMW : MW0 m w2 := by
   refine ⟨?_, ?_, ?_, ⟨#[.chan (some (m.n0 + 1))], ?_⟩, ⟨#[.func f fr cp], ?_⟩, ?_, hF2.out, ⟨by omega, by omega, by omega⟩, hsh⟩
   · rw [hWg]; exact hF2.obj 3 _ rfl
   · rw [h8, hc0]; exact hF2.cell (i := 2) rfl
   · rw [h4, hfv]; exact hF2.cell (i := 0) rfl
   · rw [h8]; exact hF2.obj 2 _ rfl
   · rw [h4]; exact hF2.obj 0 _ rfl
   · rw [hc0]; exact hF2.obj 1 _ rfl
 have hT : HTk m T := ⟨hs, t0, by rw [t2, hiv], by rw [t4, h4], by rw [t8, h8], by rw [t9, hWg]⟩
 refine (mp_phase hm hMW hT).bind fun S a3 w3 _ h => ?_
 obtain ⟨hS, e10, T3, d, hT3, hE, hG⟩ := h
 have hsh' : ∀ b, S b → b < m.n0 ∨ b = m.q.Wg := fun b hb => (hS b hb).imp (hsh b) id
 rw [hcs] at hG
 refine Lone.on (n := 20) (goes_imp (fun g w hg _ => ?_) (hG S))
 obtain ⟨rfl, hr⟩ := hg
 refine Lone.on (n := 40) (col_first hm hsh' hT3 (MpEnd.steady.rel hE hr) fun T4 fa cap4 ps w4 hT4 hC hE4 _ => ?_)
 refine (col_loop hm hsh' hC m.xs.length 0 T4 _ w4 (by omega) hT4 ⟨Nat.le_refl _, fun _ _ => rfl, rfl, rfl, rfl, ⟨by simp, .inl ⟨rfl, rfl⟩⟩, fun g hg => by cases hg⟩).bind fun S5 a5 w5 _ h5 => ?_
 obtain ⟨rfl, h5⟩ := h5
 refine Lone.goes (n := 40) (col_last (b₀ := b₀) (a₀ := a₀) (ops₀ := ops₀) (i₀ := i₀) (rest₀ := rest₀) (k₀ := k₀) hm hE4 (Array.getElem?_eq_some_iff.1 hE4.dfr).1 h5 fun v w hR => ⟨fun b hb => (hS b hb).imp id fun e => e.trans hWg, v, hR, rfl⟩)
end
end Go.Proofs.Ytblpmdolclalnaa
namespace Go.Proofs.Ytblpmdolclalnaa
open Go.Conc
def fillD (T0 : Array Value) (d : Nat → Nat) (val : Nat → Value) (D : Array Bool) (n : Nat) : Array Value := (List.range n).foldl (fun T i => if D.getD i false = true then T.setIfInBounds (d i) (val i) else T) T0
section
variable {T0 : Array Value} {d : Nat → Nat} {val : Nat → Value} {D : Array Bool} {n : Nat}
theorem fillD_succ : fillD T0 d val D (n + 1) = if D.getD n false = true then (fillD T0 d val D n).setIfInBounds (d n) (val n) else fillD T0 d val D n := by
 simp only [fillD, List.range_succ, List.foldl_append, List.foldl_cons, List.foldl_nil]
theorem fillD_size : ∀ n, (fillD T0 d val D n).size = T0.size
 | 0 => rfl
 | n + 1 => by rw [fillD_succ]; split <;> simp [fillD_size n]
theorem fillD_else {j : Nat} : ∀ n, (∀ i, i < n → D.getD i false = true → d i ≠ j) → (fillD T0 d val D n)[j]? = T0[j]?
 | 0, _ => rfl
 | n + 1, h => by
   rw [fillD_succ]
   split
   · rename_i hd
     rw [Array.getElem?_setIfInBounds_ne (h n (Nat.lt_succ_self n) hd)]
     exact fillD_else n fun i hi => h i (Nat.lt_succ_of_lt hi)
   · exact fillD_else n fun i hi => h i (Nat.lt_succ_of_lt hi)
theorem fillD_at {i : Nat} (hD : D.getD i false = true) (hb : d i < T0.size) : ∀ n, (∀ k, k < n → d k = d i → k = i) → i < n → (fillD T0 d val D n)[d i]? = some (val i)
 | 0, _, h => absurd h (Nat.not_lt_zero _)
 | n + 1, hinj, h => by
   rw [fillD_succ]
   by_cases e : n = i
   · subst e
     rw [if_pos hD, Array.getElem?_setIfInBounds_self_of_lt (by rw [fillD_size]; exact hb)]
   · have ih := fillD_at hD hb n (fun k hk => hinj k (Nat.lt_succ_of_lt hk)) (by omega)
     split
     · rw [Array.getElem?_setIfInBounds_ne (fun x => e (hinj n (Nat.lt_succ_self n) x))]
       exact ih
     · exact ih
theorem getD_set {i k : Nat} : (D.setIfInBounds i true).getD k false = if k = i ∧ i < D.size then true else D.getD k false := by
 simp only [Array.getD_eq_getD_getElem?, Array.getElem?_setIfInBounds]
 by_cases e : i = k
 · subst e
   by_cases h : i < D.size
   · simp [h]
   · simp [h]
 · simp [e, Ne.symm e]
theorem fillD_step {i : Nat} (hinj : ∀ a b, a < n → b < n → d a = d b → a = b) (hi : i < n) (hs : D.size = n) (_hf : D.getD i false = false) :
   (fillD T0 d val D n).setIfInBounds (d i) (val i) = fillD T0 d val (D.setIfInBounds i true) n := by
 refine Array.ext_getElem? fun j => ?_
 by_cases hj : d i = j
 · subst hj
   by_cases hb : d i < T0.size
   · rw [Array.getElem?_setIfInBounds_self_of_lt (by rw [fillD_size]; exact hb), fillD_at (by rw [getD_set]; simp [hs, hi]) hb n (fun k hk e => hinj k i hk hi e) hi]
   · rw [Array.getElem?_eq_none (by simp [fillD_size]; omega), Array.getElem?_eq_none (by simp [fillD_size]; omega)]
 · rw [Array.getElem?_setIfInBounds_ne hj]
   by_cases h : ∃ k, k < n ∧ D.getD k false = true ∧ d k = j
   · obtain ⟨k, hk, hDk, rfl⟩ := h
     by_cases hb : d k < T0.size
     · rw [fillD_at hDk hb n (fun a ha e => hinj a k ha hk e) hk, fillD_at (by rw [getD_set, hDk]; simp) hb n (fun a ha e => hinj a k ha hk e) hk]
     · rw [Array.getElem?_eq_none (by simp [fillD_size]; omega), Array.getElem?_eq_none (by simp [fillD_size]; omega)]
   · rw [fillD_else n (fun k hk hDk e => h ⟨k, hk, hDk, e⟩), fillD_else n (fun k hk hDk e => ?_)]
     rw [getD_set] at hDk
     split at hDk
     · rename_i hx
       exact hj (hx.1 ▸ e)
     · exact h ⟨k, hk, hDk, e⟩
theorem count_set {i : Nat} (hi : i < n) (hs : D.size = n) (hf : D.getD i false = false) : ((List.range n).filter fun k => (D.setIfInBounds i true).getD k false).length = ((List.range n).filter fun k => D.getD k false).length + 1 := by
 have key : ∀ m, ((List.range m).filter fun k => (D.setIfInBounds i true).getD k false).length = ((List.range m).filter fun k => D.getD k false).length + (if i < m then 1 else 0) := by
   intro m
   induction m with
   | zero => simp
   | succ m ih =>
     simp only [List.range_succ, List.filter_append, List.length_append, ih]
     by_cases e : m = i
     · subst e
       have h1 : (D.setIfInBounds m true).getD m false = true := by rw [getD_set]; simp [hs, hi]
       simp only [List.filter_cons, List.filter_nil, h1, hf]
       simp
     · have h1 : (D.setIfInBounds i true).getD m false = D.getD m false := by rw [getD_set]; simp [e]
       have h2 : (i < m + 1) ↔ i < m := by omega
       simp only [List.filter_cons, List.filter_nil, h1, h2]
       omega
 rw [key n, if_pos hi]
end
section
variable {P : Program} {main : Bool} {R : World → World → Prop} {D : World → World → Array Event → Prop} {Stop : Goroutine → World → Prop}
theorem goes_draw (hm : P.follows .mixedOrders = true) (hd : ∀ w, D w { w with drawn := w.drawn + 1 } #[]) {b : Frame} {a : Act} {k : List Item} {cs : List Frame} {w : World} {id : Nat} {ops : Array Oper} {n : Nat}
   (h : ∀ w₁, R w w₁ → ∀ t, Goes P main R D Stop n (G (b.at a (.inRegion ops (lin ops ops.size t (Array.replicate ops.size false)) :: k)) cs) { w₁ with drawn := w₁.drawn + 1 }) :
   Goes P main R D Stop (n + 1) (G (b.at a (.code (.region id ops true) :: k)) cs) w :=
 Goes.step rfl fun w₁ h₁ => by
   rw [stepG_region_draw]
   refine ⟨hd _, ?_⟩
   have := h w₁ h₁ (w₁.tape w₁.drawn (.order b.fn id))
   simp only [Region.schedule, hm, Bool.true_or, if_true]
   exact this
structure QuietR (P : Program) (fn : FuncId) (ops : Array Oper) (T0 : Array Value) (ds : List Deferred) (d : Nat → Nat) (val : Nat → Value) (F : World → Prop) (D : World → World → Array Event → Prop) : Prop where
 inj : ∀ a b, a < ops.size → b < ops.size → d a = d b → a = b
 low : ∀ i, i < ops.size → d i < T0.size
 dst : ∀ (i : Nat) (o : Oper), ops[i]? = some o → o.dst = some (d i) ∧ o.guard = none
 ord : ∀ (i : Nat) (o : Oper), ops[i]? = some o → ∀ e ∈ o.after, e.on < i
 runs : ∀ (i : Nat) (o : Oper) (T : Array Value) (w : World), ops[i]? = some o → F w → (∀ e ∈ o.after, Region.binds .any e = true → T[d e.on]? = some (val e.on)) → (∀ j, (∀ k, k < ops.size → d k ≠ j) → T[j]? = T0[j]?) →
   (execOp (⟨T, ds⟩ : Act).eval o).run P w = .ok (.value (val i)) w ∧ D w w (listed P fn ⟨T, ds⟩ o w)
theorem goes_quiet {b : Frame} {ops : Array Oper} {T0 : Array Value} {ds : List Deferred} {d : Nat → Nat} {val : Nat → Value} {F : World → Prop} (hQ : QuietR P b.fn ops T0 ds d val F D) (hkd : b.kind ≠ .early) (rl : ∀ {w w₁ : World}, F w → R w w₁ → F w₁) {k : List Item} {cs : List Frame} {m : Nat}
   (h : ∀ w, F w → Goes P main R D Stop m (G (b.at ⟨fillD T0 d val (Array.replicate ops.size true) ops.size, ds⟩ (.inRegion ops [] :: k)) cs) w) :
   ∀ (fuel : Nat) (L : Array Bool) (t : Nat) (w : World), L.size = ops.size → ((List.range ops.size).filter fun k => L.getD k false).length + fuel = ops.size → F w →
     Goes P main R D Stop (m + fuel) (G (b.at ⟨fillD T0 d val L ops.size, ds⟩ (.inRegion ops (lin ops fuel t L) :: k)) cs) w := by
 intro fuel
 induction fuel with
 | zero =>
   intro L t w hs hc hF
   have hall : ∀ i, i < ops.size → L.getD i false = true := by
     intro i hi
     have h1 : ((List.range ops.size).filter fun k => L.getD k false) = List.range ops.size := by
       refine List.Sublist.eq_of_length List.filter_sublist ?_
       simpa using hc
     have h2 : i ∈ (List.range ops.size).filter fun k => L.getD k false := by rw [h1]; simpa using hi
     simpa using (List.mem_filter.1 h2).2
   have e : L = Array.replicate ops.size true := by
     refine Array.ext (by simp [hs]) fun i h1 h2 => ?_
     have := hall i (by rw [← hs]; exact h1)
     simpa [Array.getD_eq_getD_getElem?, h1] using this
   rw [lin_zero, e]
   exact h w hF
 | succ fuel ih =>
   intro L t w hs hc hF
   have hne : Region.ready .any ops L ≠ [] := by
     obtain ⟨i, hi, hLi, hmin⟩ : ∃ i, i < ops.size ∧ L.getD i false = false ∧ ∀ k, k < i → L.getD k false = true := by
       have hex : ∃ i, i < ops.size ∧ L.getD i false = false := by
         refine Classical.byContradiction fun hno => ?_
         have : ((List.range ops.size).filter fun k => L.getD k false) = List.range ops.size := List.filter_eq_self.2 fun k hk => by
           cases hx : L.getD k false with
           | true => rfl
           | false => exact absurd ⟨k, by simpa using hk, hx⟩ hno
         rw [this] at hc
         simp at hc
       have key : ∀ N, (∃ i, i < N ∧ i < ops.size ∧ L.getD i false = false) → ∃ i, i < ops.size ∧ L.getD i false = false ∧ ∀ k, k < i → L.getD k false = true := by
         intro N
         induction N with
         | zero => rintro ⟨i, hi, _⟩; omega
         | succ N ihN =>
           rintro ⟨i, hi, hi', hL⟩
           by_cases hx : ∃ k, k < N ∧ k < ops.size ∧ L.getD k false = false
           · exact ihN hx
           · refine ⟨i, hi', hL, fun k hk => ?_⟩
             cases hy : L.getD k false with
             | true => rfl
             | false => exact absurd ⟨k, by omega, by omega, hy⟩ hx
       obtain ⟨i, hi, hL⟩ := hex
       exact key (i + 1) ⟨i, by omega, hi, hL⟩
     have hmem : i ∈ Region.ready .any ops L := by
       unfold Region.ready
       refine List.mem_filter.2 ⟨by simpa using hi, ?_⟩
       have ho : ops[i]? = some ops[i] := Array.getElem?_eq_getElem hi
       have hLt : L.getD i true = false := by
         have hlt : i < L.size := by omega
         simpa [Array.getD_eq_getD_getElem?, hlt] using hLi
       rw [hLt, ho]
       simp only [Bool.not_false, Bool.true_and, Option.map_some, Option.getD_some, Array.all_eq_true_iff_forall_mem]
       intro e he
       rw [hmin e.on (hQ.ord i _ ho e he)]
       simp
     exact fun h0 => by rw [h0] at hmem; cases hmem
   obtain ⟨i, hi, t', e⟩ := lin_succ (fuel := fuel) rfl hne t
   rw [e]
   unfold Region.ready at hi
   obtain ⟨h1, h2⟩ := List.mem_filter.1 hi
   have hin : i < ops.size := by simpa using h1
   have ho : ops[i]? = some ops[i] := Array.getElem?_eq_getElem hin
   rw [ho] at h2
   simp only [Option.map_some, Option.getD_some, Bool.and_eq_true, Bool.not_eq_true', Array.all_eq_true_iff_forall_mem] at h2
   have hLi : L.getD i false = false := by
     have hlt : i < L.size := by omega
     have := h2.1
     simpa [Array.getD_eq_getD_getElem?, hlt] using this
   have hdeps : ∀ ed ∈ ops[i].after, Region.binds .any ed = true → L.getD ed.on false = true := fun ed hed hb => by
     have := h2.2 ed hed
     rw [hb] at this
     simpa using this
   obtain ⟨hdst, hg⟩ := hQ.dst i _ ho
   refine Goes.step rfl fun w₁ h₁ => ?_
   have hF' := rl hF h₁
   obtain ⟨hr, hev⟩ := hQ.runs i _ (fillD T0 d val L ops.size) w₁ ho hF'
     (fun ed hed hb => fillD_at (hdeps ed hed hb) (hQ.low _ (Nat.lt_trans (hQ.ord i _ ho ed hed) hin)) _ (fun k hk ek => hQ.inj k ed.on hk (Nat.lt_trans (hQ.ord i _ ho ed hed) hin) ek) (Nat.lt_trans (hQ.ord i _ ho ed hed) hin))
     (fun j hj => fillD_else _ fun k hk _ => hj k hk)
   rw [stepG_value ho (by simp [Region.wanted, hg]) hkd hr]
   refine ⟨hev, ?_⟩
   have hput : (⟨fillD T0 d val L ops.size, ds⟩ : Act).put ops[i].dst (val i) = ⟨fillD T0 d val (L.setIfInBounds i true) ops.size, ds⟩ := by
     rw [hdst]
     simp only [Act.put]
     rw [fillD_step hQ.inj hin hs hLi]
   rw [hput]
   exact ih (L.setIfInBounds i true) t' w₁ (by simp [hs]) (by rw [count_set hin hs hLi]; omega) hF'
theorem goes_still (hm : P.follows .mixedOrders = true) (hd : ∀ w, D w { w with drawn := w.drawn + 1 } #[]) {b : Frame} {id : Nat} {ops : Array Oper} {T0 : Array Value} {ds : List Deferred} {d : Nat → Nat} {val : Nat → Value} {F : World → Prop} (hQ : QuietR P b.fn ops T0 ds d val F D) (hkd : b.kind ≠ .early)
   (rl : ∀ {w w₁ : World}, F w → R w w₁ → F w₁) (rd : ∀ w, F w → F { w with drawn := w.drawn + 1 }) {k : List Item} {cs : List Frame} {m : Nat} {w : World} (hF : F w)
   (h : ∀ w, F w → Goes P main R D Stop m (G (b.at ⟨fillD T0 d val (Array.replicate ops.size true) ops.size, ds⟩ (.inRegion ops [] :: k)) cs) w) :
   Goes P main R D Stop (m + ops.size + 1) (G (b.at ⟨T0, ds⟩ (.code (.region id ops true) :: k)) cs) w := by
 refine goes_draw hm hd fun w₁ h₁ t => ?_
 have e : fillD T0 d val (Array.replicate ops.size false) ops.size = T0 := by
   refine Array.ext_getElem? fun j => fillD_else _ fun i hi hx => ?_
   simp [Array.getD_eq_getD_getElem?, hi] at hx
 have := goes_quiet hQ hkd rl (k := k) (cs := cs) (m := m) h ops.size (Array.replicate ops.size false) t { w₁ with drawn := w₁.drawn + 1 } (by simp) (by
   have : ((List.range ops.size).filter fun k => (Array.replicate ops.size false).getD k false) = [] := List.filter_eq_nil_iff.2 fun a ha => by
     have ha' : a < ops.size := by simpa using ha
     simp [Array.getD_eq_getD_getElem?, ha']
   rw [this]; simp) (rd _ (rl hF h₁))
 rw [e] at this
 exact this
end
end Go.Proofs.Ytblpmdolclalnaa
namespace Go.Proofs.Ytblpmdolclalnaa
open Go.Conc Go.RowKit Go.Conc.Lib Go.ConcR.Gen Go.ConcN.Gen
def S66 (S : Nat → Prop) (w : World) : Prop := ∀ b, S b → ∃ cs : Array Value, w.heap[b]? = some (.cells cs 66 (0, 0))
structure Keep (Shun : Nat → Prop) (w : World) (S : Nat → Prop) (w' : World) : Prop where
 shun : ∀ b, S b → Shun b ∨ w.heap.size ≤ b
 out : Out w.heap.size w (fun b _ => Shun b) w'
 s66 : S66 S w'
def Ls (S : Nat → Prop) (fa : Option Addr) (xs : List Value) (w : World) : Prop := ∀ (i : Nat) (v : Value), xs[i]? = some v → ∃ bl o, fa = some ⟨bl, o, none⟩ ∧ ¬ S bl ∧ w.cell? ⟨bl, o + i, none⟩ = some v
def Cel (S : Nat → Prop) (b : Nat) (v : Value) (w : World) : Prop := ¬ S b ∧ w.cell? ⟨b, 0, none⟩ = some v
section
variable {Shun S S' : Nat → Prop} {w w₁ w₂ : World} {fa : Option Addr} {xs : List Value} {b n cap t : Nat} {v : Value}
theorem S66.lt (h : S66 S w) (hb : S b) : b < w.heap.size := let ⟨_, hc⟩ := h b hb; (Array.getElem?_eq_some_iff.1 hc).1
theorem Keep.refl (h : S66 S w) : Keep S w S w := ⟨fun _ => .inl, Out.refl (Nat.le_refl _), h⟩
theorem Keep.old (h : Keep Shun w S w₁) (hb : b < w.heap.size) (hn : ¬ Shun b) : ¬ S b := fun hs => (h.shun b hs).elim hn fun hx => by omega
theorem Keep.trans (h : Keep Shun w S w₁) (h' : Keep S w₁ S' w₂) : Keep Shun w S' w₂ := by
 refine ⟨fun b hb => ?_, ⟨Nat.le_trans h.out.size h'.out.size, fun b x hb hg => ?_, fun b hb hg => ?_, fun b c e f hb hc => ?_, h'.out.os.trans h.out.os, h'.out.out.trans h.out.out, h'.out.tape.trans h.out.tape⟩, h'.s66⟩
 · rcases h'.shun b hb with x | x
   · exact h.shun b x
   · exact .inr (Nat.le_trans h.out.size x)
 · exact (h'.out.cell b x (Nat.lt_of_lt_of_le hb h.out.size) (h.old hb hg)).trans (h.out.cell b x hb hg)
 · exact (h'.out.blk b (Nat.lt_of_lt_of_le hb h.out.size) fun _ => h.old hb (hg 0)).trans (h.out.blk b hb hg)
 · obtain ⟨c1, h1, h2⟩ := h.out.form b c e f hb hc
   obtain ⟨c2, h3, h4⟩ := h'.out.form b c1 e f (Nat.lt_of_lt_of_le hb h.out.size) h1
   exact ⟨c2, h3, h4.trans h2⟩
theorem Keep.at (h : Keep Shun w S w₁) (d : Nat) : Keep Shun w S (w₁.at d) := ⟨h.shun, h.out.at d, h.s66⟩
theorem Keep.alloc (h : Keep Shun w S w₁) (o : Obj) : Keep Shun w S (w₁.alloc o) := ⟨h.shun, h.out.alloc o, fun b hb => (let ⟨cs, hc⟩ := h.s66 b hb; ⟨cs, (heap_alloc_old _ _ b (h.s66.lt hb)).trans hc⟩)⟩
theorem Keep.grown (h : Keep Shun w S w₁) (hg : w₁.grownBy w₂ v.ownBlock) (hr : w₁.ownsRow 0 t 1 v n xs) (ht : t ≠ 66) (hb : ∀ g, v.ownBlock = some g → w.heap.size ≤ g) : Keep Shun w S w₂ := by
 have hlow : ∀ b, b < w.heap.size → some b ≠ v.ownBlock := fun b hlt e => by have := hb b e.symm; omega
 refine ⟨h.shun, h.out.more hg.size (fun b hlt => hg.block b (Nat.lt_of_lt_of_le hlt h.out.size) (hlow b hlt)) hg.os hg.output hg.tape, fun b hs => ?_⟩
 obtain ⟨cs, hc⟩ := h.s66 b hs
 refine ⟨cs, (hg.block b (Array.getElem?_eq_some_iff.1 hc).1 fun e => ?_).trans hc⟩
 obtain ⟨cs', hc'⟩ := row_tp hr e.symm
 rw [hc] at hc'
 cases hc'
 exact ht rfl
theorem Keep.steady : Steady (Keep Shun w S) := fun _ d h => h.at d
theorem Ls.keep (h : Ls Shun fa xs w) (k : Keep Shun w S w₁) : Ls S fa xs w₁ := fun i v hv => by
 obtain ⟨bl, o, h1, h2, h3⟩ := h i v hv
 exact ⟨bl, o, h1, k.old (cell_lt h3) h2, (k.out.cell bl _ (cell_lt h3) h2).trans h3⟩
theorem Cel.keep (h : Cel Shun b v w) (k : Keep Shun w S w₁) : Cel S b v w₁ := ⟨k.old (cell_lt h.2) h.1, (k.out.cell b _ (cell_lt h.2) h.1).trans h.2⟩
theorem Ls.row (h : w.ownsRow 0 t 1 (.slice fa n cap) n xs) (ht : t ≠ 66) (hs : S66 S w) : Ls S fa xs w := fun i v hv => by
 rcases h.2 with ⟨e, h0⟩ | ⟨g, c, cur, e, _⟩
 · have := h.1
   rw [h0] at this
   have hx : xs = [] := List.length_eq_zero_iff.1 (by omega)
   rw [hx] at hv
   cases hv
 · cases e
   refine ⟨g, 0, rfl, fun hx => ?_, by rw [Nat.zero_add]; exact row_get h hv⟩
   obtain ⟨cs, hc⟩ := hs g hx
   obtain ⟨cs', hc'⟩ := row_tp h (g := g) rfl
   rw [hc] at hc'
   cases hc'
   exact ht rfl
theorem AtRel.steady : Steady (AtRel w) := fun w' d h => by obtain ⟨d', rfl⟩ := h; exact ⟨d, rfl⟩
theorem keep_box (h : S66 Shun w) (r : AtRel w w₁) : Keep Shun w Shun (w₁.alloc (.cells #[v] t)) ∧ Cel Shun w₁.heap.size v (w₁.alloc (.cells #[v] t)) := by
 obtain ⟨d, rfl⟩ := r
 have hn := heap_alloc_new (w.at d) (Obj.cells #[v] t)
 exact ⟨((Keep.refl h).at d).alloc _, fun hs => Nat.lt_irrefl _ (h.lt hs), by unfold World.cell?; rw [hn]; rfl⟩
end
theorem keep_refl_at {Shun : Nat → Prop} {w w₁ : World} (h : S66 Shun w) (r : AtRel w w₁) : Keep Shun w Shun w₁ := by obtain ⟨d, rfl⟩ := r; exact (Keep.refl h).at d
section
variable {Shun : Nat → Prop} {w : World} {b₀ : Frame} {a₀ : Act} {ops₀ : Array Oper} {i₀ : Nat} {rest₀ : List Nat} {k₀ : List Item} {cs : List Frame}
noncomputable def body12 : Code := Try.f12.body.getD .skip
noncomputable def body13 : Code := Try.f13.body.getD .skip
set_option maxRecDepth 100000 in
theorem fn12 {a : Int} (h66 : S66 Shun w) : Lone Try.prog w.heap.size (fun S g w' => Keep Shun w S w' ∧ ∃ kb, Cel S kb (.int .u8 a) w' ∧ g = G (b₀.at (a₀.put ((ops₀[i₀]?).bind (·.dst)) (fnV kb)) (.inRegion ops₀ rest₀ :: k₀)) cs) Shun (G ((base 12).at ⟨#[.int .u8 a, undef, undef, undef], []⟩ [.code body12]) (b₀.at a₀ (.inRegion ops₀ (i₀ :: rest₀) :: k₀) :: cs)) w := by
 have hD : ∀ w, SD Shun w w #[] := sd_idle
 have hF : AtRel w w := ⟨w.drawn, rfl⟩
 have rl : ∀ {w₁ w₂ : World}, AtRel w w₁ → AtRel w₁ w₂ → AtRel w w₂ := fun h r => AtRel.steady.rel h r
 refine Lone.goes (n := 30) ?_
 generalize hw : w = w₀ at hF ⊢
 rw [← hw] at hF ⊢
 simp only [body12, Try.f12, Option.getD_some]
 repeat ((first | ((first | ((with_reducible refine g_c (k' := ?_) true true hD ?_ ?_); rotate_left; focus exact rfl) | with_reducible refine g_r hD rfl ?_); intro _ h₁; replace hF := rl hF h₁; clear h₁)))
 refine Goes.step rfl fun w₁ h₁ => ?_
 replace hF := rl hF h₁
 clear h₁
 refine goes_oper_k rfl rfl (by decide) (fun K hK => ?_)
 go_simp
 refine hK _ _ ⟨sd_new (by simp) (fun e he => ?_), ?_⟩
 · have hm := mem_listed he
   simp [go_sem] at hm
 clear hK K
 replace hF := keep_box (v := .int .u8 a) (t := 5) h66 hF
 clear rl
 generalize w₁.alloc (.cells #[.int .u8 a] 5) = w₂ at hF ⊢
 generalize w₁.heap.size = kb at hF ⊢
 clear w₁
 have rl : ∀ {w₁ w₂ : World}, (Keep Shun w Shun w₁ ∧ Cel Shun kb (.int .u8 a) w₁) → AtRel w₁ w₂ → (Keep Shun w Shun w₂ ∧ Cel Shun kb (.int .u8 a) w₂) := fun h r => by obtain ⟨d, rfl⟩ := r; exact ⟨h.1.at d, h.2⟩
 try walk_nrm
 repeat ((first | ((with_reducible refine g_opG ?_); first | (refine g_unw hD rfl rfl ?_; intro _ h₁; replace hF := rl hF h₁; clear h₁; walk_nrm) | (refine Goes.step rfl ?_; intro _ h₁; replace hF := rl hF h₁; clear h₁; refine goes_oper_k rfl rfl (by k_ne) fun K hK => ?_; go_simp; refine hK _ _ ⟨?_, ?_⟩; (focus (refine g_idle hD ?_; intro e he; have hm := mem_listed he; simp [go_sem, *] at hm; done)); clear hK K; try w_num)) | ((first | ((with_reducible refine g_c (k' := ?_) true true hD ?_ ?_); rotate_left; focus exact rfl) | with_reducible refine g_r hD rfl ?_); intro _ h₁; replace hF := rl hF h₁; clear h₁)))
 refine Goes.step rfl fun w₃ h₃ => ?_
 replace hF := rl hF h₃
 clear h₃
 refine goes_leave1 rfl rfl Try.func12 rfl ⟨sd_idle _, ?_⟩
 exact Goes.stop fun w₄ h₄ => (let hF' := rl hF h₄; ⟨hF'.1, kb, hF'.2, rfl⟩)
set_option maxRecDepth 100000 in
theorem fn13 {fa : Option Addr} {n cap : Nat} (h66 : S66 Shun w) : Lone Try.prog w.heap.size (fun S g w' => Keep Shun w S w' ∧ ∃ kb, Cel S kb (.slice fa n cap) w' ∧ g = G (b₀.at (a₀.put ((ops₀[i₀]?).bind (·.dst)) (seqV kb)) (.inRegion ops₀ rest₀ :: k₀)) cs) Shun (G ((base 13).at ⟨#[.slice fa n cap, undef, undef, undef], []⟩ [.code body13]) (b₀.at a₀ (.inRegion ops₀ (i₀ :: rest₀) :: k₀) :: cs)) w := by
 have hD : ∀ w, SD Shun w w #[] := sd_idle
 have hF : AtRel w w := ⟨w.drawn, rfl⟩
 have rl : ∀ {w₁ w₂ : World}, AtRel w w₁ → AtRel w₁ w₂ → AtRel w w₂ := fun h r => AtRel.steady.rel h r
 refine Lone.goes (n := 30) ?_
 generalize hw : w = w₀ at hF ⊢
 rw [← hw] at hF ⊢
 simp only [body13, Try.f13, Option.getD_some]
 repeat ((first | ((first | ((with_reducible refine g_c (k' := ?_) true true hD ?_ ?_); rotate_left; focus exact rfl) | with_reducible refine g_r hD rfl ?_); intro _ h₁; replace hF := rl hF h₁; clear h₁)))
 refine Goes.step rfl fun w₁ h₁ => ?_
 replace hF := rl hF h₁
 clear h₁
 refine goes_oper_k rfl rfl (by decide) (fun K hK => ?_)
 go_simp
 refine hK _ _ ⟨sd_new (by simp) (fun e he => ?_), ?_⟩
 · have hm := mem_listed he
   simp [go_sem] at hm
 clear hK K
 replace hF := keep_box (v := .slice fa n cap) (t := 22) h66 hF
 clear rl
 generalize w₁.alloc (.cells #[.slice fa n cap] 22) = w₂ at hF ⊢
 generalize w₁.heap.size = kb at hF ⊢
 clear w₁
 have rl : ∀ {w₁ w₂ : World}, (Keep Shun w Shun w₁ ∧ Cel Shun kb (.slice fa n cap) w₁) → AtRel w₁ w₂ → (Keep Shun w Shun w₂ ∧ Cel Shun kb (.slice fa n cap) w₂) := fun h r => by obtain ⟨d, rfl⟩ := r; exact ⟨h.1.at d, h.2⟩
 try walk_nrm
 repeat ((first | ((with_reducible refine g_opG ?_); first | (refine g_unw hD rfl rfl ?_; intro _ h₁; replace hF := rl hF h₁; clear h₁; walk_nrm) | (refine Goes.step rfl ?_; intro _ h₁; replace hF := rl hF h₁; clear h₁; refine goes_oper_k rfl rfl (by k_ne) fun K hK => ?_; go_simp; refine hK _ _ ⟨?_, ?_⟩; (focus (refine g_idle hD ?_; intro e he; have hm := mem_listed he; simp [go_sem, *] at hm; done)); clear hK K; try w_num)) | ((first | ((with_reducible refine g_c (k' := ?_) true true hD ?_ ?_); rotate_left; focus exact rfl) | with_reducible refine g_r hD rfl ?_); intro _ h₁; replace hF := rl hF h₁; clear h₁)))
 refine Goes.step rfl fun w₃ h₃ => ?_
 replace hF := rl hF h₃
 clear h₃
 refine goes_leave1 rfl rfl Try.func13 rfl ⟨sd_idle _, ?_⟩
 exact Goes.stop fun w₄ h₄ => (let hF' := rl hF h₄; ⟨hF'.1, kb, hF'.2, rfl⟩)
end
abbrev ints (ns : List Int) : List Value := ns.map (Value.int .i64)
theorem array26 (T : Array Value) (h : T.size = 26) : ∃ v0 v1 v2 v3 v4 v5 v6 v7 v8 v9 v10 v11 v12 v13 v14 v15 v16 v17 v18 v19 v20 v21 v22 v23 v24 v25, T = #[v0, v1, v2, v3, v4, v5, v6, v7, v8, v9, v10, v11, v12, v13, v14, v15, v16, v17, v18, v19, v20, v21, v22, v23, v24, v25] := by
 obtain ⟨l⟩ := T
 match l, h with
 | [v0, v1, v2, v3, v4, v5, v6, v7, v8, v9, v10, v11, v12, v13, v14, v15, v16, v17, v18, v19, v20, v21, v22, v23, v24, v25], _ => exact ⟨v0, v1, v2, v3, v4, v5, v6, v7, v8, v9, v10, v11, v12, v13, v14, v15, v16, v17, v18, v19, v20, v21, v22, v23, v24, v25, rfl⟩
/-! ### small -/
structure U9 (fa : Option Addr) (n cap i : Nat) (U : Array Value) : Prop where
 size : U.size = 25
 t0 : U[0]? = some (.slice fa n cap)
 t2 : U[2]? = some (.bool false)
 t3 : U[3]? = some (.int .i64 i)
section
variable {Shun : Nat → Prop} {w w₁ : World} {b₀ : Frame} {a₀ : Act} {ops₀ : Array Oper} {i₀ : Nat} {rest₀ : List Nat} {k₀ : List Item} {cs : List Frame} {fa : Option Addr} {cap i : Nat} {ns : List Int}
end
end Go.Proofs.Ytblpmdolclalnaa
