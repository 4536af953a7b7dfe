/- The law StageOnce: what it asks of the counters: a region that draws its order, in every order. Made by gen_onr.py. -/
import Derived.Test.YtblpmdolclalnaaQ27
set_option maxHeartbeats 16000000
set_option linter.unusedSimpArgs false
set_option linter.unusedVariables false
namespace Go.Proofs.Ytblpmdolclalnaa
open Go.Conc Go.RowKit Go.Conc.Lib Go.ConcR.Gen Go.ConcN.Gen
section
variable {P : Program} {main : Bool} {R : World → World → Prop} {D : World → World → Array Event → Prop} {Stop : Goroutine → World → Prop}
theorem goes_lin {b : Frame} {a : Act} {k : List Item} {cs : List Frame} {w : World} {ops : Array Oper} {fuel : Nat} {listed : Array Bool} {n : Nat} {rs : List Nat} (hr : Region.ready .any ops listed = rs) (hne : rs ≠ [])
   (h : ∀ i ∈ rs, ∀ t, Goes P main R D Stop n (G (b.at a (.inRegion ops (i :: lin ops fuel t (listed.setIfInBounds i true)) :: k)) cs) w) (t : Nat) :
   Goes P main R D Stop n (G (b.at a (.inRegion ops (lin ops (fuel + 1) t listed) :: k)) cs) w := by
 obtain ⟨i, hi, t', e⟩ := lin_succ (fuel := fuel) hr hne t
 rw [e]
 exact h i hi t'
end
noncomputable def ops8 : Array Oper := cO (cF (cF (tl8 7)))
structure OnF (Shun : Nat → Prop) (n0 n mm : Nat) (fo : Option Addr) (w : World) : Prop where
 cn : Cel Shun n0 (.int .u8 n) w
 cv : Cel Shun (n0 + 5) (.int .i32 n) w
 cm : Cel Shun (n0 + 4) (.int .i32 mm) w
 cw : Cel Shun (n0 + 3) (.int .i32 0) w
 cb : Cel Shun (n0 + 2) (.slice (some ⟨n0 + 1, 0, none⟩) n n) w
 cc : ¬ Shun (n0 + 1) ∧ ∀ x, x < n → w.cell? ⟨n0 + 1, x, none⟩ = some (.int .i32 1)
 ls : Ls Shun fo ((List.range n).map fun x => Value.int .i64 (x : Nat)) w
section
variable {Shun : Nat → Prop} {n0 n k mm co : Nat} {fo : Option Addr} {w : World} {cs : List Frame}
theorem OnF.steady : Steady (OnF Shun n0 n mm fo) := fun _ _ h => ⟨h.cn, h.cv, h.cm, h.cw, h.cb, h.cc, h.ls⟩
set_option maxRecDepth 100000 in
theorem reg8 {Stop : Goroutine → World → Prop} {F : World → Prop} {K : List Item} {v : Nat → Value} (hF : F w) (st : Steady F) (hO : ∀ w, F w → OnF Shun n0 n mm fo w) (hn : n < 256) (hk : k < 16) (hm : mm ≤ k + 1)
   (hend : ∀ w, F w → Goes Try.prog true AtRel (SD Shun) Stop 60 (G ((base 8).at ⟨#[v 0, v 1, ptr n0, v 3, v 4, .int .i64 (k + 1 : Nat), ptr (n0 + 2), ptr (n0 + 3), ptr (n0 + 4), ptr (n0 + 5), v 10, v 11, .slice fo n co, .int .i64 0, v 14, v 15, v 16, v 17, v 18, v 19, v 20, v 21, v 22, v 23, v 24, v 25, v 26, v 27, v 28, v 29, v 30, .int .i64 0, .bool false, .bool false, .slice fo n co, .int .i64 n, .int .u8 n, .int .i64 n, .bool false, .bool false, .bool false, .int .i32 n, .int .i64 n, .int .u8 n, .int .i64 n, .bool false, .bool false, .bool false, .int .i32 mm, .int .i64 mm, .int .i64 (k + 1 : Nat), .bool false, .bool false, .bool false, .int .i32 0, .bool false, .bool false, v 57, v 58, v 59, v 60, v 61, v 62, v 63, v 64, v 65, v 66, v 67, v 68, v 69, v 70, v 71, v 72, v 73, v 74, v 75, v 76], []⟩ (.inRegion ops8 [] :: K)) cs) w) :
   Goes Try.prog true AtRel (SD Shun) Stop (143 + 62) (G ((base 8).at ⟨#[v 0, v 1, ptr n0, v 3, v 4, .int .i64 (k + 1 : Nat), ptr (n0 + 2), ptr (n0 + 3), ptr (n0 + 4), ptr (n0 + 5), v 10, v 11, .slice fo n co, .int .i64 0, v 14, v 15, v 16, v 17, v 18, v 19, v 20, v 21, v 22, v 23, v 24, v 25, v 26, v 27, v 28, v 29, v 30, v 31, v 32, v 33, v 34, v 35, v 36, v 37, v 38, v 39, v 40, v 41, v 42, v 43, v 44, v 45, v 46, v 47, v 48, v 49, v 50, v 51, v 52, v 53, v 54, v 55, v 56, v 57, v 58, v 59, v 60, v 61, v 62, v 63, v 64, v 65, v 66, v 67, v 68, v 69, v 70, v 71, v 72, v 73, v 74, v 75, v 76], []⟩ (.code (.region 7 ops8 true) :: K)) cs) w := by
 have hD : ∀ w, SD Shun w w #[] := sd_idle
 have rl : ∀ {w w₁ : World}, F w → AtRel w w₁ → F w₁ := fun h r => st.rel h r
 have hw3 : IntKind.i64.wrap (n : Int) = (n : Int) := by rw [IntKind.wrap_i64]; omega
 have hw4 : IntKind.i64.wrap (mm : Int) = (mm : Int) := by rw [IntKind.wrap_i64]; omega
 have hgt : decide ((k : Int) + 1 < (mm : Int)) = false := decide_eq_false (by omega)
 have hgt' : decide (((k + 1 : Nat) : Int) < (mm : Int)) = false := decide_eq_false (by omega)
 have s26 : ∀ t w, F w → Goes Try.prog true AtRel (SD Shun) Stop (0 + 60) (G ((base 8).at ⟨#[v 0, v 1, ptr n0, v 3, v 4, .int .i64 (k + 1 : Nat), ptr (n0 + 2), ptr (n0 + 3), ptr (n0 + 4), ptr (n0 + 5), v 10, v 11, .slice fo n co, .int .i64 0, v 14, v 15, v 16, v 17, v 18, v 19, v 20, v 21, v 22, v 23, v 24, v 25, v 26, v 27, v 28, v 29, v 30, .int .i64 0, .bool false, .bool false, .slice fo n co, .int .i64 n, .int .u8 n, .int .i64 n, .bool false, .bool false, .bool false, .int .i32 n, .int .i64 n, .int .u8 n, .int .i64 n, .bool false, .bool false, .bool false, .int .i32 mm, .int .i64 mm, .int .i64 (k + 1 : Nat), .bool false, .bool false, .bool false, .int .i32 0, .bool false, .bool false, v 57, v 58, v 59, v 60, v 61, v 62, v 63, v 64, v 65, v 66, v 67, v 68, v 69, v 70, v 71, v 72, v 73, v 74, v 75, v 76], []⟩ (.inRegion ops8 (lin ops8 0 t #[true, true, true, true, true, true, true, true, true, true, true, true, true, true, true, true, true, true, true, true, true, true, true, true, true, true]) :: K)) cs) w := by
   intro t w hF
   rw [lin_zero]
   exact hend w hF
 have s25 : ∀ t w, F w → Goes Try.prog true AtRel (SD Shun) Stop (1 + 60) (G ((base 8).at ⟨#[v 0, v 1, ptr n0, v 3, v 4, .int .i64 (k + 1 : Nat), ptr (n0 + 2), ptr (n0 + 3), ptr (n0 + 4), ptr (n0 + 5), v 10, v 11, .slice fo n co, .int .i64 0, v 14, v 15, v 16, v 17, v 18, v 19, v 20, v 21, v 22, v 23, v 24, v 25, v 26, v 27, v 28, v 29, v 30, .int .i64 0, .bool false, .bool false, .slice fo n co, .int .i64 n, .int .u8 n, .int .i64 n, .bool false, .bool false, .bool false, .int .i32 n, .int .i64 n, .int .u8 n, .int .i64 n, .bool false, .bool false, .bool false, .int .i32 mm, .int .i64 mm, .int .i64 (k + 1 : Nat), .bool false, .bool false, .bool false, .int .i32 0, .bool false, v 56, v 57, v 58, v 59, v 60, v 61, v 62, v 63, v 64, v 65, v 66, v 67, v 68, v 69, v 70, v 71, v 72, v 73, v 74, v 75, v 76], []⟩ (.inRegion ops8 (lin ops8 1 t #[true, true, true, true, true, true, true, true, true, true, true, true, true, true, true, true, true, true, true, true, true, true, true, true, true, false]) :: K)) cs) w := by
   intro t w hF
   refine goes_lin (rs := [25]) (by first | rfl | kernel_rfl) (by simp) (fun i hi t => ?_) t
   simp only [List.mem_cons, List.not_mem_nil, or_false] at hi
   rcases hi with rfl
   · refine Goes.mono (Goes.step (n := 0 + 60) rfl fun w₁ h₁ => ?_) (by omega)
     replace hF := rl hF h₁
     refine goes_oper_k rfl rfl (by decide) (fun K hK => ?_)
     simp only [ops8, tl8, cS, cF, cO, body8, Try.f8, Option.getD_some] at hK ⊢
     go_simp
     refine hK _ _ ⟨?_, ?_⟩
     · refine g_idle hD ?_
       intro e he
       have hm := mem_listed he
       simp [go_sem, *] at hm
     exact s26 _ _ hF
 have s24 : ∀ t w, F w → Goes Try.prog true AtRel (SD Shun) Stop (2 + 60) (G ((base 8).at ⟨#[v 0, v 1, ptr n0, v 3, v 4, .int .i64 (k + 1 : Nat), ptr (n0 + 2), ptr (n0 + 3), ptr (n0 + 4), ptr (n0 + 5), v 10, v 11, .slice fo n co, .int .i64 0, v 14, v 15, v 16, v 17, v 18, v 19, v 20, v 21, v 22, v 23, v 24, v 25, v 26, v 27, v 28, v 29, v 30, .int .i64 0, .bool false, .bool false, .slice fo n co, .int .i64 n, .int .u8 n, .int .i64 n, .bool false, .bool false, .bool false, .int .i32 n, .int .i64 n, .int .u8 n, .int .i64 n, .bool false, .bool false, .bool false, .int .i32 mm, .int .i64 mm, .int .i64 (k + 1 : Nat), .bool false, .bool false, .bool false, .int .i32 0, v 55, v 56, v 57, v 58, v 59, v 60, v 61, v 62, v 63, v 64, v 65, v 66, v 67, v 68, v 69, v 70, v 71, v 72, v 73, v 74, v 75, v 76], []⟩ (.inRegion ops8 (lin ops8 2 t #[true, true, true, true, true, true, true, true, true, true, true, true, true, true, true, true, true, true, true, true, true, true, true, true, false, false]) :: K)) cs) w := by
   intro t w hF
   refine goes_lin (rs := [24]) (by first | rfl | kernel_rfl) (by simp) (fun i hi t => ?_) t
   simp only [List.mem_cons, List.not_mem_nil, or_false] at hi
   rcases hi with rfl
   · refine Goes.mono (Goes.step (n := 1 + 60) rfl fun w₁ h₁ => ?_) (by omega)
     replace hF := rl hF h₁
     refine goes_oper_k rfl rfl (by decide) (fun K hK => ?_)
     simp only [ops8, tl8, cS, cF, cO, body8, Try.f8, Option.getD_some] at hK ⊢
     go_simp
     refine hK _ _ ⟨?_, ?_⟩
     · refine g_idle hD ?_
       intro e he
       have hm := mem_listed he
       simp [go_sem, *] at hm
     exact s25 _ _ hF
 have s23 : ∀ t w, F w → Goes Try.prog true AtRel (SD Shun) Stop (42 + 60) (G ((base 8).at ⟨#[v 0, v 1, ptr n0, v 3, v 4, .int .i64 (k + 1 : Nat), ptr (n0 + 2), ptr (n0 + 3), ptr (n0 + 4), ptr (n0 + 5), v 10, v 11, .slice fo n co, .int .i64 0, v 14, v 15, v 16, v 17, v 18, v 19, v 20, v 21, v 22, v 23, v 24, v 25, v 26, v 27, v 28, v 29, v 30, .int .i64 0, .bool false, .bool false, .slice fo n co, .int .i64 n, .int .u8 n, .int .i64 n, .bool false, .bool false, .bool false, .int .i32 n, .int .i64 n, .int .u8 n, .int .i64 n, .bool false, .bool false, .bool false, .int .i32 mm, .int .i64 mm, .int .i64 (k + 1 : Nat), .bool false, .bool false, .bool false, v 54, v 55, v 56, v 57, v 58, v 59, v 60, v 61, v 62, v 63, v 64, v 65, v 66, v 67, v 68, v 69, v 70, v 71, v 72, v 73, v 74, v 75, v 76], []⟩ (.inRegion ops8 (lin ops8 3 t #[true, true, true, true, true, true, true, true, true, true, true, true, true, true, true, true, true, true, true, true, true, true, true, false, false, false]) :: K)) cs) w := by
   intro t w hF
   refine goes_lin (rs := [23]) (by first | rfl | kernel_rfl) (by simp) (fun i hi t => ?_) t
   simp only [List.mem_cons, List.not_mem_nil, or_false] at hi
   rcases hi with rfl
   · refine Goes.mono (goes_bind (Stop := fun g w => Goes Try.prog true AtRel (SD Shun) Stop (2 + 74) g w) (m := 2 + 74) (n := 20) (fun w => ⟨w.drawn, rfl⟩) (fun _ _ h => h) (to_load (B := n0 + 3) (y := 0) hD hF rl rfl rfl (by decide) rfl rfl fun w hF => ?_)) (by omega)
     refine Goes.mono (n := 2 + 73) (Goes.step rfl fun w₁ h₁ => ?_) (by omega)
     replace hF := rl hF h₁
     rw [step_load (hO _ hF).cw.2]
     simp only [goes_go]
     refine ⟨sd_read fun e he => ?_, ?_⟩
     · simp only [List.mem_toArray, List.mem_cons, List.not_mem_nil, or_false] at he
       exact ⟨_, _, _, he, (hO _ hF).cw.1, cell_lt (hO _ hF).cw.2⟩
     refine (from_load hD hF rl rfl (m := 2 + 60) fun w hF => ?_).mono (by omega)
     exact s24 _ _ hF
 have s22 : ∀ t w, F w → Goes Try.prog true AtRel (SD Shun) Stop (43 + 60) (G ((base 8).at ⟨#[v 0, v 1, ptr n0, v 3, v 4, .int .i64 (k + 1 : Nat), ptr (n0 + 2), ptr (n0 + 3), ptr (n0 + 4), ptr (n0 + 5), v 10, v 11, .slice fo n co, .int .i64 0, v 14, v 15, v 16, v 17, v 18, v 19, v 20, v 21, v 22, v 23, v 24, v 25, v 26, v 27, v 28, v 29, v 30, .int .i64 0, .bool false, .bool false, .slice fo n co, .int .i64 n, .int .u8 n, .int .i64 n, .bool false, .bool false, .bool false, .int .i32 n, .int .i64 n, .int .u8 n, .int .i64 n, .bool false, .bool false, .bool false, .int .i32 mm, .int .i64 mm, .int .i64 (k + 1 : Nat), .bool false, .bool false, v 53, v 54, v 55, v 56, v 57, v 58, v 59, v 60, v 61, v 62, v 63, v 64, v 65, v 66, v 67, v 68, v 69, v 70, v 71, v 72, v 73, v 74, v 75, v 76], []⟩ (.inRegion ops8 (lin ops8 4 t #[true, true, true, true, true, true, true, true, true, true, true, true, true, true, true, true, true, true, true, true, true, true, false, false, false, false]) :: K)) cs) w := by
   intro t w hF
   refine goes_lin (rs := [22]) (by first | rfl | kernel_rfl) (by simp) (fun i hi t => ?_) t
   simp only [List.mem_cons, List.not_mem_nil, or_false] at hi
   rcases hi with rfl
   · refine Goes.mono (Goes.step (n := 42 + 60) rfl fun w₁ h₁ => ?_) (by omega)
     replace hF := rl hF h₁
     refine goes_oper_k rfl rfl (by decide) (fun K hK => ?_)
     simp only [ops8, tl8, cS, cF, cO, body8, Try.f8, Option.getD_some] at hK ⊢
     go_simp
     refine hK _ _ ⟨?_, ?_⟩
     · refine g_idle hD ?_
       intro e he
       have hm := mem_listed he
       simp [go_sem, *] at hm
     exact s23 _ _ hF
 have s21 : ∀ t w, F w → Goes Try.prog true AtRel (SD Shun) Stop (44 + 60) (G ((base 8).at ⟨#[v 0, v 1, ptr n0, v 3, v 4, .int .i64 (k + 1 : Nat), ptr (n0 + 2), ptr (n0 + 3), ptr (n0 + 4), ptr (n0 + 5), v 10, v 11, .slice fo n co, .int .i64 0, v 14, v 15, v 16, v 17, v 18, v 19, v 20, v 21, v 22, v 23, v 24, v 25, v 26, v 27, v 28, v 29, v 30, .int .i64 0, .bool false, .bool false, .slice fo n co, .int .i64 n, .int .u8 n, .int .i64 n, .bool false, .bool false, .bool false, .int .i32 n, .int .i64 n, .int .u8 n, .int .i64 n, .bool false, .bool false, .bool false, .int .i32 mm, .int .i64 mm, .int .i64 (k + 1 : Nat), .bool false, v 52, v 53, v 54, v 55, v 56, v 57, v 58, v 59, v 60, v 61, v 62, v 63, v 64, v 65, v 66, v 67, v 68, v 69, v 70, v 71, v 72, v 73, v 74, v 75, v 76], []⟩ (.inRegion ops8 (lin ops8 5 t #[true, true, true, true, true, true, true, true, true, true, true, true, true, true, true, true, true, true, true, true, true, false, false, false, false, false]) :: K)) cs) w := by
   intro t w hF
   refine goes_lin (rs := [21]) (by first | rfl | kernel_rfl) (by simp) (fun i hi t => ?_) t
   simp only [List.mem_cons, List.not_mem_nil, or_false] at hi
   rcases hi with rfl
   · refine Goes.mono (Goes.step (n := 43 + 60) rfl fun w₁ h₁ => ?_) (by omega)
     replace hF := rl hF h₁
     refine goes_oper_k rfl rfl (by decide) (fun K hK => ?_)
     simp only [ops8, tl8, cS, cF, cO, body8, Try.f8, Option.getD_some] at hK ⊢
     go_simp
     refine hK _ _ ⟨?_, ?_⟩
     · refine g_idle hD ?_
       intro e he
       have hm := mem_listed he
       simp [go_sem, *] at hm
     exact s22 _ _ hF
 have s20 : ∀ t w, F w → Goes Try.prog true AtRel (SD Shun) Stop (45 + 60) (G ((base 8).at ⟨#[v 0, v 1, ptr n0, v 3, v 4, .int .i64 (k + 1 : Nat), ptr (n0 + 2), ptr (n0 + 3), ptr (n0 + 4), ptr (n0 + 5), v 10, v 11, .slice fo n co, .int .i64 0, v 14, v 15, v 16, v 17, v 18, v 19, v 20, v 21, v 22, v 23, v 24, v 25, v 26, v 27, v 28, v 29, v 30, .int .i64 0, .bool false, .bool false, .slice fo n co, .int .i64 n, .int .u8 n, .int .i64 n, .bool false, .bool false, .bool false, .int .i32 n, .int .i64 n, .int .u8 n, .int .i64 n, .bool false, .bool false, .bool false, .int .i32 mm, .int .i64 mm, .int .i64 (k + 1 : Nat), v 51, v 52, v 53, v 54, v 55, v 56, v 57, v 58, v 59, v 60, v 61, v 62, v 63, v 64, v 65, v 66, v 67, v 68, v 69, v 70, v 71, v 72, v 73, v 74, v 75, v 76], []⟩ (.inRegion ops8 (lin ops8 6 t #[true, true, true, true, true, true, true, true, true, true, true, true, true, true, true, true, true, true, true, true, false, false, false, false, false, false]) :: K)) cs) w := by
   intro t w hF
   refine goes_lin (rs := [20]) (by first | rfl | kernel_rfl) (by simp) (fun i hi t => ?_) t
   simp only [List.mem_cons, List.not_mem_nil, or_false] at hi
   rcases hi with rfl
   · refine Goes.mono (Goes.step (n := 44 + 60) rfl fun w₁ h₁ => ?_) (by omega)
     replace hF := rl hF h₁
     refine goes_oper_k rfl rfl (by decide) (fun K hK => ?_)
     simp only [ops8, tl8, cS, cF, cO, body8, Try.f8, Option.getD_some] at hK ⊢
     go_simp
     refine hK _ _ ⟨?_, ?_⟩
     · refine g_idle hD ?_
       intro e he
       have hm := mem_listed he
       simp [go_sem, *] at hm
     exact s21 _ _ hF
 have s19 : ∀ t w, F w → Goes Try.prog true AtRel (SD Shun) Stop (46 + 60) (G ((base 8).at ⟨#[v 0, v 1, ptr n0, v 3, v 4, .int .i64 (k + 1 : Nat), ptr (n0 + 2), ptr (n0 + 3), ptr (n0 + 4), ptr (n0 + 5), v 10, v 11, .slice fo n co, .int .i64 0, v 14, v 15, v 16, v 17, v 18, v 19, v 20, v 21, v 22, v 23, v 24, v 25, v 26, v 27, v 28, v 29, v 30, .int .i64 0, .bool false, .bool false, .slice fo n co, .int .i64 n, .int .u8 n, .int .i64 n, .bool false, .bool false, .bool false, .int .i32 n, .int .i64 n, .int .u8 n, .int .i64 n, .bool false, .bool false, .bool false, .int .i32 mm, .int .i64 mm, v 50, v 51, v 52, v 53, v 54, v 55, v 56, v 57, v 58, v 59, v 60, v 61, v 62, v 63, v 64, v 65, v 66, v 67, v 68, v 69, v 70, v 71, v 72, v 73, v 74, v 75, v 76], []⟩ (.inRegion ops8 (lin ops8 7 t #[true, true, true, true, true, true, true, true, true, true, true, true, true, true, true, true, true, true, true, false, false, false, false, false, false, false]) :: K)) cs) w := by
   intro t w hF
   refine goes_lin (rs := [19]) (by first | rfl | kernel_rfl) (by simp) (fun i hi t => ?_) t
   simp only [List.mem_cons, List.not_mem_nil, or_false] at hi
   rcases hi with rfl
   · refine Goes.mono (Goes.step (n := 45 + 60) rfl fun w₁ h₁ => ?_) (by omega)
     replace hF := rl hF h₁
     refine goes_oper_k rfl rfl (by decide) (fun K hK => ?_)
     simp only [ops8, tl8, cS, cF, cO, body8, Try.f8, Option.getD_some] at hK ⊢
     go_simp
     refine hK _ _ ⟨?_, ?_⟩
     · refine g_idle hD ?_
       intro e he
       have hm := mem_listed he
       simp [go_sem, *] at hm
     exact s20 _ _ hF
 have s18_19 : ∀ t w, F w → Goes Try.prog true AtRel (SD Shun) Stop (46 + 60) (G ((base 8).at ⟨#[v 0, v 1, ptr n0, v 3, v 4, .int .i64 (k + 1 : Nat), ptr (n0 + 2), ptr (n0 + 3), ptr (n0 + 4), ptr (n0 + 5), v 10, v 11, .slice fo n co, .int .i64 0, v 14, v 15, v 16, v 17, v 18, v 19, v 20, v 21, v 22, v 23, v 24, v 25, v 26, v 27, v 28, v 29, v 30, .int .i64 0, .bool false, .bool false, .slice fo n co, .int .i64 n, .int .u8 n, .int .i64 n, .bool false, .bool false, .bool false, .int .i32 n, .int .i64 n, .int .u8 n, .int .i64 n, .bool false, .bool false, .bool false, .int .i32 mm, v 49, .int .i64 (k + 1 : Nat), v 51, v 52, v 53, v 54, v 55, v 56, v 57, v 58, v 59, v 60, v 61, v 62, v 63, v 64, v 65, v 66, v 67, v 68, v 69, v 70, v 71, v 72, v 73, v 74, v 75, v 76], []⟩ (.inRegion ops8 (lin ops8 7 t #[true, true, true, true, true, true, true, true, true, true, true, true, true, true, true, true, true, true, false, true, false, false, false, false, false, false]) :: K)) cs) w := by
   intro t w hF
   refine goes_lin (rs := [18]) (by first | rfl | kernel_rfl) (by simp) (fun i hi t => ?_) t
   simp only [List.mem_cons, List.not_mem_nil, or_false] at hi
   rcases hi with rfl
   · refine Goes.mono (Goes.step (n := 45 + 60) rfl fun w₁ h₁ => ?_) (by omega)
     replace hF := rl hF h₁
     refine goes_oper_k rfl rfl (by decide) (fun K hK => ?_)
     simp only [ops8, tl8, cS, cF, cO, body8, Try.f8, Option.getD_some] at hK ⊢
     go_simp
     refine hK _ _ ⟨?_, ?_⟩
     · refine g_idle hD ?_
       intro e he
       have hm := mem_listed he
       simp [go_sem, *] at hm
     exact s20 _ _ hF
 have s17_19 : ∀ t w, F w → Goes Try.prog true AtRel (SD Shun) Stop (86 + 60) (G ((base 8).at ⟨#[v 0, v 1, ptr n0, v 3, v 4, .int .i64 (k + 1 : Nat), ptr (n0 + 2), ptr (n0 + 3), ptr (n0 + 4), ptr (n0 + 5), v 10, v 11, .slice fo n co, .int .i64 0, v 14, v 15, v 16, v 17, v 18, v 19, v 20, v 21, v 22, v 23, v 24, v 25, v 26, v 27, v 28, v 29, v 30, .int .i64 0, .bool false, .bool false, .slice fo n co, .int .i64 n, .int .u8 n, .int .i64 n, .bool false, .bool false, .bool false, .int .i32 n, .int .i64 n, .int .u8 n, .int .i64 n, .bool false, .bool false, .bool false, v 48, v 49, .int .i64 (k + 1 : Nat), v 51, v 52, v 53, v 54, v 55, v 56, v 57, v 58, v 59, v 60, v 61, v 62, v 63, v 64, v 65, v 66, v 67, v 68, v 69, v 70, v 71, v 72, v 73, v 74, v 75, v 76], []⟩ (.inRegion ops8 (lin ops8 8 t #[true, true, true, true, true, true, true, true, true, true, true, true, true, true, true, true, true, false, false, true, false, false, false, false, false, false]) :: K)) cs) w := by
   intro t w hF
   refine goes_lin (rs := [17]) (by first | rfl | kernel_rfl) (by simp) (fun i hi t => ?_) t
   simp only [List.mem_cons, List.not_mem_nil, or_false] at hi
   rcases hi with rfl
   · refine Goes.mono (goes_bind (Stop := fun g w => Goes Try.prog true AtRel (SD Shun) Stop (46 + 74) g w) (m := 46 + 74) (n := 20) (fun w => ⟨w.drawn, rfl⟩) (fun _ _ h => h) (to_load (B := n0 + 4) (y := 0) hD hF rl rfl rfl (by decide) rfl rfl fun w hF => ?_)) (by omega)
     refine Goes.mono (n := 46 + 73) (Goes.step rfl fun w₁ h₁ => ?_) (by omega)
     replace hF := rl hF h₁
     rw [step_load (hO _ hF).cm.2]
     simp only [goes_go]
     refine ⟨sd_read fun e he => ?_, ?_⟩
     · simp only [List.mem_toArray, List.mem_cons, List.not_mem_nil, or_false] at he
       exact ⟨_, _, _, he, (hO _ hF).cm.1, cell_lt (hO _ hF).cm.2⟩
     refine (from_load hD hF rl rfl (m := 46 + 60) fun w hF => ?_).mono (by omega)
     exact s18_19 _ _ hF
 have s18 : ∀ t w, F w → Goes Try.prog true AtRel (SD Shun) Stop (47 + 60) (G ((base 8).at ⟨#[v 0, v 1, ptr n0, v 3, v 4, .int .i64 (k + 1 : Nat), ptr (n0 + 2), ptr (n0 + 3), ptr (n0 + 4), ptr (n0 + 5), v 10, v 11, .slice fo n co, .int .i64 0, v 14, v 15, v 16, v 17, v 18, v 19, v 20, v 21, v 22, v 23, v 24, v 25, v 26, v 27, v 28, v 29, v 30, .int .i64 0, .bool false, .bool false, .slice fo n co, .int .i64 n, .int .u8 n, .int .i64 n, .bool false, .bool false, .bool false, .int .i32 n, .int .i64 n, .int .u8 n, .int .i64 n, .bool false, .bool false, .bool false, .int .i32 mm, v 49, v 50, v 51, v 52, v 53, v 54, v 55, v 56, v 57, v 58, v 59, v 60, v 61, v 62, v 63, v 64, v 65, v 66, v 67, v 68, v 69, v 70, v 71, v 72, v 73, v 74, v 75, v 76], []⟩ (.inRegion ops8 (lin ops8 8 t #[true, true, true, true, true, true, true, true, true, true, true, true, true, true, true, true, true, true, false, false, false, false, false, false, false, false]) :: K)) cs) w := by
   intro t w hF
   refine goes_lin (rs := [18, 19]) (by first | rfl | kernel_rfl) (by simp) (fun i hi t => ?_) t
   simp only [List.mem_cons, List.not_mem_nil, or_false] at hi
   rcases hi with rfl | rfl
   · refine Goes.mono (Goes.step (n := 46 + 60) rfl fun w₁ h₁ => ?_) (by omega)
     replace hF := rl hF h₁
     refine goes_oper_k rfl rfl (by decide) (fun K hK => ?_)
     simp only [ops8, tl8, cS, cF, cO, body8, Try.f8, Option.getD_some] at hK ⊢
     go_simp
     refine hK _ _ ⟨?_, ?_⟩
     · refine g_idle hD ?_
       intro e he
       have hm := mem_listed he
       simp [go_sem, *] at hm
     exact s19 _ _ hF
   · refine Goes.mono (Goes.step (n := 46 + 60) rfl fun w₁ h₁ => ?_) (by omega)
     replace hF := rl hF h₁
     refine goes_oper_k rfl rfl (by decide) (fun K hK => ?_)
     simp only [ops8, tl8, cS, cF, cO, body8, Try.f8, Option.getD_some] at hK ⊢
     go_simp
     refine hK _ _ ⟨?_, ?_⟩
     · refine g_idle hD ?_
       intro e he
       have hm := mem_listed he
       simp [go_sem, *] at hm
     exact s18_19 _ _ hF
 have s17 : ∀ t w, F w → Goes Try.prog true AtRel (SD Shun) Stop (87 + 60) (G ((base 8).at ⟨#[v 0, v 1, ptr n0, v 3, v 4, .int .i64 (k + 1 : Nat), ptr (n0 + 2), ptr (n0 + 3), ptr (n0 + 4), ptr (n0 + 5), v 10, v 11, .slice fo n co, .int .i64 0, v 14, v 15, v 16, v 17, v 18, v 19, v 20, v 21, v 22, v 23, v 24, v 25, v 26, v 27, v 28, v 29, v 30, .int .i64 0, .bool false, .bool false, .slice fo n co, .int .i64 n, .int .u8 n, .int .i64 n, .bool false, .bool false, .bool false, .int .i32 n, .int .i64 n, .int .u8 n, .int .i64 n, .bool false, .bool false, .bool false, v 48, v 49, v 50, v 51, v 52, v 53, v 54, v 55, v 56, v 57, v 58, v 59, v 60, v 61, v 62, v 63, v 64, v 65, v 66, v 67, v 68, v 69, v 70, v 71, v 72, v 73, v 74, v 75, v 76], []⟩ (.inRegion ops8 (lin ops8 9 t #[true, true, true, true, true, true, true, true, true, true, true, true, true, true, true, true, true, false, false, false, false, false, false, false, false, false]) :: K)) cs) w := by
   intro t w hF
   refine goes_lin (rs := [17, 19]) (by first | rfl | kernel_rfl) (by simp) (fun i hi t => ?_) t
   simp only [List.mem_cons, List.not_mem_nil, or_false] at hi
   rcases hi with rfl | rfl
   · refine Goes.mono (goes_bind (Stop := fun g w => Goes Try.prog true AtRel (SD Shun) Stop (47 + 74) g w) (m := 47 + 74) (n := 20) (fun w => ⟨w.drawn, rfl⟩) (fun _ _ h => h) (to_load (B := n0 + 4) (y := 0) hD hF rl rfl rfl (by decide) rfl rfl fun w hF => ?_)) (by omega)
     refine Goes.mono (n := 47 + 73) (Goes.step rfl fun w₁ h₁ => ?_) (by omega)
     replace hF := rl hF h₁
     rw [step_load (hO _ hF).cm.2]
     simp only [goes_go]
     refine ⟨sd_read fun e he => ?_, ?_⟩
     · simp only [List.mem_toArray, List.mem_cons, List.not_mem_nil, or_false] at he
       exact ⟨_, _, _, he, (hO _ hF).cm.1, cell_lt (hO _ hF).cm.2⟩
     refine (from_load hD hF rl rfl (m := 47 + 60) fun w hF => ?_).mono (by omega)
     exact s18 _ _ hF
   · refine Goes.mono (Goes.step (n := 86 + 60) rfl fun w₁ h₁ => ?_) (by omega)
     replace hF := rl hF h₁
     refine goes_oper_k rfl rfl (by decide) (fun K hK => ?_)
     simp only [ops8, tl8, cS, cF, cO, body8, Try.f8, Option.getD_some] at hK ⊢
     go_simp
     refine hK _ _ ⟨?_, ?_⟩
     · refine g_idle hD ?_
       intro e he
       have hm := mem_listed he
       simp [go_sem, *] at hm
     exact s17_19 _ _ hF
 have s16 : ∀ t w, F w → Goes Try.prog true AtRel (SD Shun) Stop (88 + 60) (G ((base 8).at ⟨#[v 0, v 1, ptr n0, v 3, v 4, .int .i64 (k + 1 : Nat), ptr (n0 + 2), ptr (n0 + 3), ptr (n0 + 4), ptr (n0 + 5), v 10, v 11, .slice fo n co, .int .i64 0, v 14, v 15, v 16, v 17, v 18, v 19, v 20, v 21, v 22, v 23, v 24, v 25, v 26, v 27, v 28, v 29, v 30, .int .i64 0, .bool false, .bool false, .slice fo n co, .int .i64 n, .int .u8 n, .int .i64 n, .bool false, .bool false, .bool false, .int .i32 n, .int .i64 n, .int .u8 n, .int .i64 n, .bool false, .bool false, v 47, v 48, v 49, v 50, v 51, v 52, v 53, v 54, v 55, v 56, v 57, v 58, v 59, v 60, v 61, v 62, v 63, v 64, v 65, v 66, v 67, v 68, v 69, v 70, v 71, v 72, v 73, v 74, v 75, v 76], []⟩ (.inRegion ops8 (lin ops8 10 t #[true, true, true, true, true, true, true, true, true, true, true, true, true, true, true, true, false, false, false, false, false, false, false, false, false, false]) :: K)) cs) w := by
   intro t w hF
   refine goes_lin (rs := [16]) (by first | rfl | kernel_rfl) (by simp) (fun i hi t => ?_) t
   simp only [List.mem_cons, List.not_mem_nil, or_false] at hi
   rcases hi with rfl
   · refine Goes.mono (Goes.step (n := 87 + 60) rfl fun w₁ h₁ => ?_) (by omega)
     replace hF := rl hF h₁
     refine goes_oper_k rfl rfl (by decide) (fun K hK => ?_)
     simp only [ops8, tl8, cS, cF, cO, body8, Try.f8, Option.getD_some] at hK ⊢
     go_simp
     refine hK _ _ ⟨?_, ?_⟩
     · refine g_idle hD ?_
       intro e he
       have hm := mem_listed he
       simp [go_sem, *] at hm
     exact s17 _ _ hF
 have s15 : ∀ t w, F w → Goes Try.prog true AtRel (SD Shun) Stop (89 + 60) (G ((base 8).at ⟨#[v 0, v 1, ptr n0, v 3, v 4, .int .i64 (k + 1 : Nat), ptr (n0 + 2), ptr (n0 + 3), ptr (n0 + 4), ptr (n0 + 5), v 10, v 11, .slice fo n co, .int .i64 0, v 14, v 15, v 16, v 17, v 18, v 19, v 20, v 21, v 22, v 23, v 24, v 25, v 26, v 27, v 28, v 29, v 30, .int .i64 0, .bool false, .bool false, .slice fo n co, .int .i64 n, .int .u8 n, .int .i64 n, .bool false, .bool false, .bool false, .int .i32 n, .int .i64 n, .int .u8 n, .int .i64 n, .bool false, v 46, v 47, v 48, v 49, v 50, v 51, v 52, v 53, v 54, v 55, v 56, v 57, v 58, v 59, v 60, v 61, v 62, v 63, v 64, v 65, v 66, v 67, v 68, v 69, v 70, v 71, v 72, v 73, v 74, v 75, v 76], []⟩ (.inRegion ops8 (lin ops8 11 t #[true, true, true, true, true, true, true, true, true, true, true, true, true, true, true, false, false, false, false, false, false, false, false, false, false, false]) :: K)) cs) w := by
   intro t w hF
   refine goes_lin (rs := [15]) (by first | rfl | kernel_rfl) (by simp) (fun i hi t => ?_) t
   simp only [List.mem_cons, List.not_mem_nil, or_false] at hi
   rcases hi with rfl
   · refine Goes.mono (Goes.step (n := 88 + 60) rfl fun w₁ h₁ => ?_) (by omega)
     replace hF := rl hF h₁
     refine goes_oper_k rfl rfl (by decide) (fun K hK => ?_)
     simp only [ops8, tl8, cS, cF, cO, body8, Try.f8, Option.getD_some] at hK ⊢
     go_simp
     refine hK _ _ ⟨?_, ?_⟩
     · refine g_idle hD ?_
       intro e he
       have hm := mem_listed he
       simp [go_sem, *] at hm
     exact s16 _ _ hF
 have s14 : ∀ t w, F w → Goes Try.prog true AtRel (SD Shun) Stop (90 + 60) (G ((base 8).at ⟨#[v 0, v 1, ptr n0, v 3, v 4, .int .i64 (k + 1 : Nat), ptr (n0 + 2), ptr (n0 + 3), ptr (n0 + 4), ptr (n0 + 5), v 10, v 11, .slice fo n co, .int .i64 0, v 14, v 15, v 16, v 17, v 18, v 19, v 20, v 21, v 22, v 23, v 24, v 25, v 26, v 27, v 28, v 29, v 30, .int .i64 0, .bool false, .bool false, .slice fo n co, .int .i64 n, .int .u8 n, .int .i64 n, .bool false, .bool false, .bool false, .int .i32 n, .int .i64 n, .int .u8 n, .int .i64 n, v 45, v 46, v 47, v 48, v 49, v 50, v 51, v 52, v 53, v 54, v 55, v 56, v 57, v 58, v 59, v 60, v 61, v 62, v 63, v 64, v 65, v 66, v 67, v 68, v 69, v 70, v 71, v 72, v 73, v 74, v 75, v 76], []⟩ (.inRegion ops8 (lin ops8 12 t #[true, true, true, true, true, true, true, true, true, true, true, true, true, true, false, false, false, false, false, false, false, false, false, false, false, false]) :: K)) cs) w := by
   intro t w hF
   refine goes_lin (rs := [14]) (by first | rfl | kernel_rfl) (by simp) (fun i hi t => ?_) t
   simp only [List.mem_cons, List.not_mem_nil, or_false] at hi
   rcases hi with rfl
   · refine Goes.mono (Goes.step (n := 89 + 60) rfl fun w₁ h₁ => ?_) (by omega)
     replace hF := rl hF h₁
     refine goes_oper_k rfl rfl (by decide) (fun K hK => ?_)
     simp only [ops8, tl8, cS, cF, cO, body8, Try.f8, Option.getD_some] at hK ⊢
     go_simp
     refine hK _ _ ⟨?_, ?_⟩
     · refine g_idle hD ?_
       intro e he
       have hm := mem_listed he
       simp [go_sem, *] at hm
     exact s15 _ _ hF
 have s11_12_13 : ∀ t w, F w → Goes Try.prog true AtRel (SD Shun) Stop (91 + 60) (G ((base 8).at ⟨#[v 0, v 1, ptr n0, v 3, v 4, .int .i64 (k + 1 : Nat), ptr (n0 + 2), ptr (n0 + 3), ptr (n0 + 4), ptr (n0 + 5), v 10, v 11, .slice fo n co, .int .i64 0, v 14, v 15, v 16, v 17, v 18, v 19, v 20, v 21, v 22, v 23, v 24, v 25, v 26, v 27, v 28, v 29, v 30, .int .i64 0, .bool false, .bool false, .slice fo n co, .int .i64 n, .int .u8 n, .int .i64 n, .bool false, .bool false, .bool false, .int .i32 n, v 42, .int .u8 n, .int .i64 n, v 45, v 46, v 47, v 48, v 49, v 50, v 51, v 52, v 53, v 54, v 55, v 56, v 57, v 58, v 59, v 60, v 61, v 62, v 63, v 64, v 65, v 66, v 67, v 68, v 69, v 70, v 71, v 72, v 73, v 74, v 75, v 76], []⟩ (.inRegion ops8 (lin ops8 13 t #[true, true, true, true, true, true, true, true, true, true, true, false, true, true, false, false, false, false, false, false, false, false, false, false, false, false]) :: K)) cs) w := by
   intro t w hF
   refine goes_lin (rs := [11]) (by first | rfl | kernel_rfl) (by simp) (fun i hi t => ?_) t
   simp only [List.mem_cons, List.not_mem_nil, or_false] at hi
   rcases hi with rfl
   · refine Goes.mono (Goes.step (n := 90 + 60) rfl fun w₁ h₁ => ?_) (by omega)
     replace hF := rl hF h₁
     refine goes_oper_k rfl rfl (by decide) (fun K hK => ?_)
     simp only [ops8, tl8, cS, cF, cO, body8, Try.f8, Option.getD_some] at hK ⊢
     go_simp
     refine hK _ _ ⟨?_, ?_⟩
     · refine g_idle hD ?_
       intro e he
       have hm := mem_listed he
       simp [go_sem, *] at hm
     exact s14 _ _ hF
 have s13 : ∀ t w, F w → Goes Try.prog true AtRel (SD Shun) Stop (91 + 60) (G ((base 8).at ⟨#[v 0, v 1, ptr n0, v 3, v 4, .int .i64 (k + 1 : Nat), ptr (n0 + 2), ptr (n0 + 3), ptr (n0 + 4), ptr (n0 + 5), v 10, v 11, .slice fo n co, .int .i64 0, v 14, v 15, v 16, v 17, v 18, v 19, v 20, v 21, v 22, v 23, v 24, v 25, v 26, v 27, v 28, v 29, v 30, .int .i64 0, .bool false, .bool false, .slice fo n co, .int .i64 n, .int .u8 n, .int .i64 n, .bool false, .bool false, .bool false, .int .i32 n, .int .i64 n, .int .u8 n, v 44, v 45, v 46, v 47, v 48, v 49, v 50, v 51, v 52, v 53, v 54, v 55, v 56, v 57, v 58, v 59, v 60, v 61, v 62, v 63, v 64, v 65, v 66, v 67, v 68, v 69, v 70, v 71, v 72, v 73, v 74, v 75, v 76], []⟩ (.inRegion ops8 (lin ops8 13 t #[true, true, true, true, true, true, true, true, true, true, true, true, true, false, false, false, false, false, false, false, false, false, false, false, false, false]) :: K)) cs) w := by
   intro t w hF
   refine goes_lin (rs := [13]) (by first | rfl | kernel_rfl) (by simp) (fun i hi t => ?_) t
   simp only [List.mem_cons, List.not_mem_nil, or_false] at hi
   rcases hi with rfl
   · refine Goes.mono (Goes.step (n := 90 + 60) rfl fun w₁ h₁ => ?_) (by omega)
     replace hF := rl hF h₁
     refine goes_oper_k rfl rfl (by decide) (fun K hK => ?_)
     simp only [ops8, tl8, cS, cF, cO, body8, Try.f8, Option.getD_some] at hK ⊢
     go_simp
     refine hK _ _ ⟨?_, ?_⟩
     · refine g_idle hD ?_
       intro e he
       have hm := mem_listed he
       simp [go_sem, *] at hm
     exact s14 _ _ hF
 have s12 : ∀ t w, F w → Goes Try.prog true AtRel (SD Shun) Stop (92 + 60) (G ((base 8).at ⟨#[v 0, v 1, ptr n0, v 3, v 4, .int .i64 (k + 1 : Nat), ptr (n0 + 2), ptr (n0 + 3), ptr (n0 + 4), ptr (n0 + 5), v 10, v 11, .slice fo n co, .int .i64 0, v 14, v 15, v 16, v 17, v 18, v 19, v 20, v 21, v 22, v 23, v 24, v 25, v 26, v 27, v 28, v 29, v 30, .int .i64 0, .bool false, .bool false, .slice fo n co, .int .i64 n, .int .u8 n, .int .i64 n, .bool false, .bool false, .bool false, .int .i32 n, .int .i64 n, v 43, v 44, v 45, v 46, v 47, v 48, v 49, v 50, v 51, v 52, v 53, v 54, v 55, v 56, v 57, v 58, v 59, v 60, v 61, v 62, v 63, v 64, v 65, v 66, v 67, v 68, v 69, v 70, v 71, v 72, v 73, v 74, v 75, v 76], []⟩ (.inRegion ops8 (lin ops8 14 t #[true, true, true, true, true, true, true, true, true, true, true, true, false, false, false, false, false, false, false, false, false, false, false, false, false, false]) :: K)) cs) w := by
   intro t w hF
   refine goes_lin (rs := [12]) (by first | rfl | kernel_rfl) (by simp) (fun i hi t => ?_) t
   simp only [List.mem_cons, List.not_mem_nil, or_false] at hi
   rcases hi with rfl
   · refine Goes.mono (Goes.step (n := 91 + 60) rfl fun w₁ h₁ => ?_) (by omega)
     replace hF := rl hF h₁
     refine goes_oper_k rfl rfl (by decide) (fun K hK => ?_)
     have h1 := (hO _ hF).cn.2
     simp only [ops8, tl8, cS, cF, cO, body8, Try.f8, Option.getD_some] at hK ⊢
     go_simp
     refine hK _ _ ⟨sd_read fun e he => ?_, ?_⟩
     · have hm := mem_listed he
       simp [go_sem, h1] at hm
       exact ⟨_, _, _, hm, (hO _ hF).cn.1, cell_lt h1⟩
     exact s13 _ _ hF
 have s11_12 : ∀ t w, F w → Goes Try.prog true AtRel (SD Shun) Stop (92 + 60) (G ((base 8).at ⟨#[v 0, v 1, ptr n0, v 3, v 4, .int .i64 (k + 1 : Nat), ptr (n0 + 2), ptr (n0 + 3), ptr (n0 + 4), ptr (n0 + 5), v 10, v 11, .slice fo n co, .int .i64 0, v 14, v 15, v 16, v 17, v 18, v 19, v 20, v 21, v 22, v 23, v 24, v 25, v 26, v 27, v 28, v 29, v 30, .int .i64 0, .bool false, .bool false, .slice fo n co, .int .i64 n, .int .u8 n, .int .i64 n, .bool false, .bool false, .bool false, .int .i32 n, v 42, .int .u8 n, v 44, v 45, v 46, v 47, v 48, v 49, v 50, v 51, v 52, v 53, v 54, v 55, v 56, v 57, v 58, v 59, v 60, v 61, v 62, v 63, v 64, v 65, v 66, v 67, v 68, v 69, v 70, v 71, v 72, v 73, v 74, v 75, v 76], []⟩ (.inRegion ops8 (lin ops8 14 t #[true, true, true, true, true, true, true, true, true, true, true, false, true, false, false, false, false, false, false, false, false, false, false, false, false, false]) :: K)) cs) w := by
   intro t w hF
   refine goes_lin (rs := [11, 13]) (by first | rfl | kernel_rfl) (by simp) (fun i hi t => ?_) t
   simp only [List.mem_cons, List.not_mem_nil, or_false] at hi
   rcases hi with rfl | rfl
   · refine Goes.mono (Goes.step (n := 91 + 60) rfl fun w₁ h₁ => ?_) (by omega)
     replace hF := rl hF h₁
     refine goes_oper_k rfl rfl (by decide) (fun K hK => ?_)
     simp only [ops8, tl8, cS, cF, cO, body8, Try.f8, Option.getD_some] at hK ⊢
     go_simp
     refine hK _ _ ⟨?_, ?_⟩
     · refine g_idle hD ?_
       intro e he
       have hm := mem_listed he
       simp [go_sem, *] at hm
     exact s13 _ _ hF
   · refine Goes.mono (Goes.step (n := 91 + 60) rfl fun w₁ h₁ => ?_) (by omega)
     replace hF := rl hF h₁
     refine goes_oper_k rfl rfl (by decide) (fun K hK => ?_)
     simp only [ops8, tl8, cS, cF, cO, body8, Try.f8, Option.getD_some] at hK ⊢
     go_simp
     refine hK _ _ ⟨?_, ?_⟩
     · refine g_idle hD ?_
       intro e he
       have hm := mem_listed he
       simp [go_sem, *] at hm
     exact s11_12_13 _ _ hF
 have s10_12_13 : ∀ t w, F w → Goes Try.prog true AtRel (SD Shun) Stop (131 + 60) (G ((base 8).at ⟨#[v 0, v 1, ptr n0, v 3, v 4, .int .i64 (k + 1 : Nat), ptr (n0 + 2), ptr (n0 + 3), ptr (n0 + 4), ptr (n0 + 5), v 10, v 11, .slice fo n co, .int .i64 0, v 14, v 15, v 16, v 17, v 18, v 19, v 20, v 21, v 22, v 23, v 24, v 25, v 26, v 27, v 28, v 29, v 30, .int .i64 0, .bool false, .bool false, .slice fo n co, .int .i64 n, .int .u8 n, .int .i64 n, .bool false, .bool false, .bool false, v 41, v 42, .int .u8 n, .int .i64 n, v 45, v 46, v 47, v 48, v 49, v 50, v 51, v 52, v 53, v 54, v 55, v 56, v 57, v 58, v 59, v 60, v 61, v 62, v 63, v 64, v 65, v 66, v 67, v 68, v 69, v 70, v 71, v 72, v 73, v 74, v 75, v 76], []⟩ (.inRegion ops8 (lin ops8 14 t #[true, true, true, true, true, true, true, true, true, true, false, false, true, true, false, false, false, false, false, false, false, false, false, false, false, false]) :: K)) cs) w := by
   intro t w hF
   refine goes_lin (rs := [10]) (by first | rfl | kernel_rfl) (by simp) (fun i hi t => ?_) t
   simp only [List.mem_cons, List.not_mem_nil, or_false] at hi
   rcases hi with rfl
   · refine Goes.mono (goes_bind (Stop := fun g w => Goes Try.prog true AtRel (SD Shun) Stop (91 + 74) g w) (m := 91 + 74) (n := 20) (fun w => ⟨w.drawn, rfl⟩) (fun _ _ h => h) (to_load (B := n0 + 5) (y := 0) hD hF rl rfl rfl (by decide) rfl rfl fun w hF => ?_)) (by omega)
     refine Goes.mono (n := 91 + 73) (Goes.step rfl fun w₁ h₁ => ?_) (by omega)
     replace hF := rl hF h₁
     rw [step_load (hO _ hF).cv.2]
     simp only [goes_go]
     refine ⟨sd_read fun e he => ?_, ?_⟩
     · simp only [List.mem_toArray, List.mem_cons, List.not_mem_nil, or_false] at he
       exact ⟨_, _, _, he, (hO _ hF).cv.1, cell_lt (hO _ hF).cv.2⟩
     refine (from_load hD hF rl rfl (m := 91 + 60) fun w hF => ?_).mono (by omega)
     exact s11_12_13 _ _ hF
 have s10_12 : ∀ t w, F w → Goes Try.prog true AtRel (SD Shun) Stop (132 + 60) (G ((base 8).at ⟨#[v 0, v 1, ptr n0, v 3, v 4, .int .i64 (k + 1 : Nat), ptr (n0 + 2), ptr (n0 + 3), ptr (n0 + 4), ptr (n0 + 5), v 10, v 11, .slice fo n co, .int .i64 0, v 14, v 15, v 16, v 17, v 18, v 19, v 20, v 21, v 22, v 23, v 24, v 25, v 26, v 27, v 28, v 29, v 30, .int .i64 0, .bool false, .bool false, .slice fo n co, .int .i64 n, .int .u8 n, .int .i64 n, .bool false, .bool false, .bool false, v 41, v 42, .int .u8 n, v 44, v 45, v 46, v 47, v 48, v 49, v 50, v 51, v 52, v 53, v 54, v 55, v 56, v 57, v 58, v 59, v 60, v 61, v 62, v 63, v 64, v 65, v 66, v 67, v 68, v 69, v 70, v 71, v 72, v 73, v 74, v 75, v 76], []⟩ (.inRegion ops8 (lin ops8 15 t #[true, true, true, true, true, true, true, true, true, true, false, false, true, false, false, false, false, false, false, false, false, false, false, false, false, false]) :: K)) cs) w := by
   intro t w hF
   refine goes_lin (rs := [10, 13]) (by first | rfl | kernel_rfl) (by simp) (fun i hi t => ?_) t
   simp only [List.mem_cons, List.not_mem_nil, or_false] at hi
   rcases hi with rfl | rfl
   · refine Goes.mono (goes_bind (Stop := fun g w => Goes Try.prog true AtRel (SD Shun) Stop (92 + 74) g w) (m := 92 + 74) (n := 20) (fun w => ⟨w.drawn, rfl⟩) (fun _ _ h => h) (to_load (B := n0 + 5) (y := 0) hD hF rl rfl rfl (by decide) rfl rfl fun w hF => ?_)) (by omega)
     refine Goes.mono (n := 92 + 73) (Goes.step rfl fun w₁ h₁ => ?_) (by omega)
     replace hF := rl hF h₁
     rw [step_load (hO _ hF).cv.2]
     simp only [goes_go]
     refine ⟨sd_read fun e he => ?_, ?_⟩
     · simp only [List.mem_toArray, List.mem_cons, List.not_mem_nil, or_false] at he
       exact ⟨_, _, _, he, (hO _ hF).cv.1, cell_lt (hO _ hF).cv.2⟩
     refine (from_load hD hF rl rfl (m := 92 + 60) fun w hF => ?_).mono (by omega)
     exact s11_12 _ _ hF
   · refine Goes.mono (Goes.step (n := 131 + 60) rfl fun w₁ h₁ => ?_) (by omega)
     replace hF := rl hF h₁
     refine goes_oper_k rfl rfl (by decide) (fun K hK => ?_)
     simp only [ops8, tl8, cS, cF, cO, body8, Try.f8, Option.getD_some] at hK ⊢
     go_simp
     refine hK _ _ ⟨?_, ?_⟩
     · refine g_idle hD ?_
       intro e he
       have hm := mem_listed he
       simp [go_sem, *] at hm
     exact s10_12_13 _ _ hF
 have s11 : ∀ t w, F w → Goes Try.prog true AtRel (SD Shun) Stop (93 + 60) (G ((base 8).at ⟨#[v 0, v 1, ptr n0, v 3, v 4, .int .i64 (k + 1 : Nat), ptr (n0 + 2), ptr (n0 + 3), ptr (n0 + 4), ptr (n0 + 5), v 10, v 11, .slice fo n co, .int .i64 0, v 14, v 15, v 16, v 17, v 18, v 19, v 20, v 21, v 22, v 23, v 24, v 25, v 26, v 27, v 28, v 29, v 30, .int .i64 0, .bool false, .bool false, .slice fo n co, .int .i64 n, .int .u8 n, .int .i64 n, .bool false, .bool false, .bool false, .int .i32 n, v 42, v 43, v 44, v 45, v 46, v 47, v 48, v 49, v 50, v 51, v 52, v 53, v 54, v 55, v 56, v 57, v 58, v 59, v 60, v 61, v 62, v 63, v 64, v 65, v 66, v 67, v 68, v 69, v 70, v 71, v 72, v 73, v 74, v 75, v 76], []⟩ (.inRegion ops8 (lin ops8 15 t #[true, true, true, true, true, true, true, true, true, true, true, false, false, false, false, false, false, false, false, false, false, false, false, false, false, false]) :: K)) cs) w := by
   intro t w hF
   refine goes_lin (rs := [11, 12]) (by first | rfl | kernel_rfl) (by simp) (fun i hi t => ?_) t
   simp only [List.mem_cons, List.not_mem_nil, or_false] at hi
   rcases hi with rfl | rfl
   · refine Goes.mono (Goes.step (n := 92 + 60) rfl fun w₁ h₁ => ?_) (by omega)
     replace hF := rl hF h₁
     refine goes_oper_k rfl rfl (by decide) (fun K hK => ?_)
     simp only [ops8, tl8, cS, cF, cO, body8, Try.f8, Option.getD_some] at hK ⊢
     go_simp
     refine hK _ _ ⟨?_, ?_⟩
     · refine g_idle hD ?_
       intro e he
       have hm := mem_listed he
       simp [go_sem, *] at hm
     exact s12 _ _ hF
   · refine Goes.mono (Goes.step (n := 92 + 60) rfl fun w₁ h₁ => ?_) (by omega)
     replace hF := rl hF h₁
     refine goes_oper_k rfl rfl (by decide) (fun K hK => ?_)
     have h1 := (hO _ hF).cn.2
     simp only [ops8, tl8, cS, cF, cO, body8, Try.f8, Option.getD_some] at hK ⊢
     go_simp
     refine hK _ _ ⟨sd_read fun e he => ?_, ?_⟩
     · have hm := mem_listed he
       simp [go_sem, h1] at hm
       exact ⟨_, _, _, hm, (hO _ hF).cn.1, cell_lt h1⟩
     exact s11_12 _ _ hF
 have s10 : ∀ t w, F w → Goes Try.prog true AtRel (SD Shun) Stop (133 + 60) (G ((base 8).at ⟨#[v 0, v 1, ptr n0, v 3, v 4, .int .i64 (k + 1 : Nat), ptr (n0 + 2), ptr (n0 + 3), ptr (n0 + 4), ptr (n0 + 5), v 10, v 11, .slice fo n co, .int .i64 0, v 14, v 15, v 16, v 17, v 18, v 19, v 20, v 21, v 22, v 23, v 24, v 25, v 26, v 27, v 28, v 29, v 30, .int .i64 0, .bool false, .bool false, .slice fo n co, .int .i64 n, .int .u8 n, .int .i64 n, .bool false, .bool false, .bool false, v 41, v 42, v 43, v 44, v 45, v 46, v 47, v 48, v 49, v 50, v 51, v 52, v 53, v 54, v 55, v 56, v 57, v 58, v 59, v 60, v 61, v 62, v 63, v 64, v 65, v 66, v 67, v 68, v 69, v 70, v 71, v 72, v 73, v 74, v 75, v 76], []⟩ (.inRegion ops8 (lin ops8 16 t #[true, true, true, true, true, true, true, true, true, true, false, false, false, false, false, false, false, false, false, false, false, false, false, false, false, false]) :: K)) cs) w := by
   intro t w hF
   refine goes_lin (rs := [10, 12]) (by first | rfl | kernel_rfl) (by simp) (fun i hi t => ?_) t
   simp only [List.mem_cons, List.not_mem_nil, or_false] at hi
   rcases hi with rfl | rfl
   · refine Goes.mono (goes_bind (Stop := fun g w => Goes Try.prog true AtRel (SD Shun) Stop (93 + 74) g w) (m := 93 + 74) (n := 20) (fun w => ⟨w.drawn, rfl⟩) (fun _ _ h => h) (to_load (B := n0 + 5) (y := 0) hD hF rl rfl rfl (by decide) rfl rfl fun w hF => ?_)) (by omega)
     refine Goes.mono (n := 93 + 73) (Goes.step rfl fun w₁ h₁ => ?_) (by omega)
     replace hF := rl hF h₁
     rw [step_load (hO _ hF).cv.2]
     simp only [goes_go]
     refine ⟨sd_read fun e he => ?_, ?_⟩
     · simp only [List.mem_toArray, List.mem_cons, List.not_mem_nil, or_false] at he
       exact ⟨_, _, _, he, (hO _ hF).cv.1, cell_lt (hO _ hF).cv.2⟩
     refine (from_load hD hF rl rfl (m := 93 + 60) fun w hF => ?_).mono (by omega)
     exact s11 _ _ hF
   · refine Goes.mono (Goes.step (n := 132 + 60) rfl fun w₁ h₁ => ?_) (by omega)
     replace hF := rl hF h₁
     refine goes_oper_k rfl rfl (by decide) (fun K hK => ?_)
     have h1 := (hO _ hF).cn.2
     simp only [ops8, tl8, cS, cF, cO, body8, Try.f8, Option.getD_some] at hK ⊢
     go_simp
     refine hK _ _ ⟨sd_read fun e he => ?_, ?_⟩
     · have hm := mem_listed he
       simp [go_sem, h1] at hm
       exact ⟨_, _, _, hm, (hO _ hF).cn.1, cell_lt h1⟩
     exact s10_12 _ _ hF
 have s9 : ∀ t w, F w → Goes Try.prog true AtRel (SD Shun) Stop (134 + 60) (G ((base 8).at ⟨#[v 0, v 1, ptr n0, v 3, v 4, .int .i64 (k + 1 : Nat), ptr (n0 + 2), ptr (n0 + 3), ptr (n0 + 4), ptr (n0 + 5), v 10, v 11, .slice fo n co, .int .i64 0, v 14, v 15, v 16, v 17, v 18, v 19, v 20, v 21, v 22, v 23, v 24, v 25, v 26, v 27, v 28, v 29, v 30, .int .i64 0, .bool false, .bool false, .slice fo n co, .int .i64 n, .int .u8 n, .int .i64 n, .bool false, .bool false, v 40, v 41, v 42, v 43, v 44, v 45, v 46, v 47, v 48, v 49, v 50, v 51, v 52, v 53, v 54, v 55, v 56, v 57, v 58, v 59, v 60, v 61, v 62, v 63, v 64, v 65, v 66, v 67, v 68, v 69, v 70, v 71, v 72, v 73, v 74, v 75, v 76], []⟩ (.inRegion ops8 (lin ops8 17 t #[true, true, true, true, true, true, true, true, true, false, false, false, false, false, false, false, false, false, false, false, false, false, false, false, false, false]) :: K)) cs) w := by
   intro t w hF
   refine goes_lin (rs := [9]) (by first | rfl | kernel_rfl) (by simp) (fun i hi t => ?_) t
   simp only [List.mem_cons, List.not_mem_nil, or_false] at hi
   rcases hi with rfl
   · refine Goes.mono (Goes.step (n := 133 + 60) rfl fun w₁ h₁ => ?_) (by omega)
     replace hF := rl hF h₁
     refine goes_oper_k rfl rfl (by decide) (fun K hK => ?_)
     simp only [ops8, tl8, cS, cF, cO, body8, Try.f8, Option.getD_some] at hK ⊢
     go_simp
     refine hK _ _ ⟨?_, ?_⟩
     · refine g_idle hD ?_
       intro e he
       have hm := mem_listed he
       simp [go_sem, *] at hm
     exact s10 _ _ hF
 have s8 : ∀ t w, F w → Goes Try.prog true AtRel (SD Shun) Stop (135 + 60) (G ((base 8).at ⟨#[v 0, v 1, ptr n0, v 3, v 4, .int .i64 (k + 1 : Nat), ptr (n0 + 2), ptr (n0 + 3), ptr (n0 + 4), ptr (n0 + 5), v 10, v 11, .slice fo n co, .int .i64 0, v 14, v 15, v 16, v 17, v 18, v 19, v 20, v 21, v 22, v 23, v 24, v 25, v 26, v 27, v 28, v 29, v 30, .int .i64 0, .bool false, .bool false, .slice fo n co, .int .i64 n, .int .u8 n, .int .i64 n, .bool false, v 39, v 40, v 41, v 42, v 43, v 44, v 45, v 46, v 47, v 48, v 49, v 50, v 51, v 52, v 53, v 54, v 55, v 56, v 57, v 58, v 59, v 60, v 61, v 62, v 63, v 64, v 65, v 66, v 67, v 68, v 69, v 70, v 71, v 72, v 73, v 74, v 75, v 76], []⟩ (.inRegion ops8 (lin ops8 18 t #[true, true, true, true, true, true, true, true, false, false, false, false, false, false, false, false, false, false, false, false, false, false, false, false, false, false]) :: K)) cs) w := by
   intro t w hF
   refine goes_lin (rs := [8]) (by first | rfl | kernel_rfl) (by simp) (fun i hi t => ?_) t
   simp only [List.mem_cons, List.not_mem_nil, or_false] at hi
   rcases hi with rfl
   · refine Goes.mono (Goes.step (n := 134 + 60) rfl fun w₁ h₁ => ?_) (by omega)
     replace hF := rl hF h₁
     refine goes_oper_k rfl rfl (by decide) (fun K hK => ?_)
     simp only [ops8, tl8, cS, cF, cO, body8, Try.f8, Option.getD_some] at hK ⊢
     go_simp
     refine hK _ _ ⟨?_, ?_⟩
     · refine g_idle hD ?_
       intro e he
       have hm := mem_listed he
       simp [go_sem, *] at hm
     exact s9 _ _ hF
 have s7 : ∀ t w, F w → Goes Try.prog true AtRel (SD Shun) Stop (136 + 60) (G ((base 8).at ⟨#[v 0, v 1, ptr n0, v 3, v 4, .int .i64 (k + 1 : Nat), ptr (n0 + 2), ptr (n0 + 3), ptr (n0 + 4), ptr (n0 + 5), v 10, v 11, .slice fo n co, .int .i64 0, v 14, v 15, v 16, v 17, v 18, v 19, v 20, v 21, v 22, v 23, v 24, v 25, v 26, v 27, v 28, v 29, v 30, .int .i64 0, .bool false, .bool false, .slice fo n co, .int .i64 n, .int .u8 n, .int .i64 n, v 38, v 39, v 40, v 41, v 42, v 43, v 44, v 45, v 46, v 47, v 48, v 49, v 50, v 51, v 52, v 53, v 54, v 55, v 56, v 57, v 58, v 59, v 60, v 61, v 62, v 63, v 64, v 65, v 66, v 67, v 68, v 69, v 70, v 71, v 72, v 73, v 74, v 75, v 76], []⟩ (.inRegion ops8 (lin ops8 19 t #[true, true, true, true, true, true, true, false, false, false, false, false, false, false, false, false, false, false, false, false, false, false, false, false, false, false]) :: K)) cs) w := by
   intro t w hF
   refine goes_lin (rs := [7]) (by first | rfl | kernel_rfl) (by simp) (fun i hi t => ?_) t
   simp only [List.mem_cons, List.not_mem_nil, or_false] at hi
   rcases hi with rfl
   · refine Goes.mono (Goes.step (n := 135 + 60) rfl fun w₁ h₁ => ?_) (by omega)
     replace hF := rl hF h₁
     refine goes_oper_k rfl rfl (by decide) (fun K hK => ?_)
     simp only [ops8, tl8, cS, cF, cO, body8, Try.f8, Option.getD_some] at hK ⊢
     go_simp
     refine hK _ _ ⟨?_, ?_⟩
     · refine g_idle hD ?_
       intro e he
       have hm := mem_listed he
       simp [go_sem, *] at hm
     exact s8 _ _ hF
 have s4_5_6 : ∀ t w, F w → Goes Try.prog true AtRel (SD Shun) Stop (137 + 60) (G ((base 8).at ⟨#[v 0, v 1, ptr n0, v 3, v 4, .int .i64 (k + 1 : Nat), ptr (n0 + 2), ptr (n0 + 3), ptr (n0 + 4), ptr (n0 + 5), v 10, v 11, .slice fo n co, .int .i64 0, v 14, v 15, v 16, v 17, v 18, v 19, v 20, v 21, v 22, v 23, v 24, v 25, v 26, v 27, v 28, v 29, v 30, .int .i64 0, .bool false, .bool false, .slice fo n co, v 35, .int .u8 n, .int .i64 n, v 38, v 39, v 40, v 41, v 42, v 43, v 44, v 45, v 46, v 47, v 48, v 49, v 50, v 51, v 52, v 53, v 54, v 55, v 56, v 57, v 58, v 59, v 60, v 61, v 62, v 63, v 64, v 65, v 66, v 67, v 68, v 69, v 70, v 71, v 72, v 73, v 74, v 75, v 76], []⟩ (.inRegion ops8 (lin ops8 20 t #[true, true, true, true, false, true, true, false, false, false, false, false, false, false, false, false, false, false, false, false, false, false, false, false, false, false]) :: K)) cs) w := by
   intro t w hF
   refine goes_lin (rs := [4]) (by first | rfl | kernel_rfl) (by simp) (fun i hi t => ?_) t
   simp only [List.mem_cons, List.not_mem_nil, or_false] at hi
   rcases hi with rfl
   · refine Goes.mono (Goes.step (n := 136 + 60) rfl fun w₁ h₁ => ?_) (by omega)
     replace hF := rl hF h₁
     refine goes_oper_k rfl rfl (by decide) (fun K hK => ?_)
     simp only [ops8, tl8, cS, cF, cO, body8, Try.f8, Option.getD_some] at hK ⊢
     go_simp
     refine hK _ _ ⟨?_, ?_⟩
     · refine g_idle hD ?_
       intro e he
       have hm := mem_listed he
       simp [go_sem, *] at hm
     exact s7 _ _ hF
 have s6 : ∀ t w, F w → Goes Try.prog true AtRel (SD Shun) Stop (137 + 60) (G ((base 8).at ⟨#[v 0, v 1, ptr n0, v 3, v 4, .int .i64 (k + 1 : Nat), ptr (n0 + 2), ptr (n0 + 3), ptr (n0 + 4), ptr (n0 + 5), v 10, v 11, .slice fo n co, .int .i64 0, v 14, v 15, v 16, v 17, v 18, v 19, v 20, v 21, v 22, v 23, v 24, v 25, v 26, v 27, v 28, v 29, v 30, .int .i64 0, .bool false, .bool false, .slice fo n co, .int .i64 n, .int .u8 n, v 37, v 38, v 39, v 40, v 41, v 42, v 43, v 44, v 45, v 46, v 47, v 48, v 49, v 50, v 51, v 52, v 53, v 54, v 55, v 56, v 57, v 58, v 59, v 60, v 61, v 62, v 63, v 64, v 65, v 66, v 67, v 68, v 69, v 70, v 71, v 72, v 73, v 74, v 75, v 76], []⟩ (.inRegion ops8 (lin ops8 20 t #[true, true, true, true, true, true, false, false, false, false, false, false, false, false, false, false, false, false, false, false, false, false, false, false, false, false]) :: K)) cs) w := by
   intro t w hF
   refine goes_lin (rs := [6]) (by first | rfl | kernel_rfl) (by simp) (fun i hi t => ?_) t
   simp only [List.mem_cons, List.not_mem_nil, or_false] at hi
   rcases hi with rfl
   · refine Goes.mono (Goes.step (n := 136 + 60) rfl fun w₁ h₁ => ?_) (by omega)
     replace hF := rl hF h₁
     refine goes_oper_k rfl rfl (by decide) (fun K hK => ?_)
     simp only [ops8, tl8, cS, cF, cO, body8, Try.f8, Option.getD_some] at hK ⊢
     go_simp
     refine hK _ _ ⟨?_, ?_⟩
     · refine g_idle hD ?_
       intro e he
       have hm := mem_listed he
       simp [go_sem, *] at hm
     exact s7 _ _ hF
 have s3_5_6 : ∀ t w, F w → Goes Try.prog true AtRel (SD Shun) Stop (138 + 60) (G ((base 8).at ⟨#[v 0, v 1, ptr n0, v 3, v 4, .int .i64 (k + 1 : Nat), ptr (n0 + 2), ptr (n0 + 3), ptr (n0 + 4), ptr (n0 + 5), v 10, v 11, .slice fo n co, .int .i64 0, v 14, v 15, v 16, v 17, v 18, v 19, v 20, v 21, v 22, v 23, v 24, v 25, v 26, v 27, v 28, v 29, v 30, .int .i64 0, .bool false, .bool false, v 34, v 35, .int .u8 n, .int .i64 n, v 38, v 39, v 40, v 41, v 42, v 43, v 44, v 45, v 46, v 47, v 48, v 49, v 50, v 51, v 52, v 53, v 54, v 55, v 56, v 57, v 58, v 59, v 60, v 61, v 62, v 63, v 64, v 65, v 66, v 67, v 68, v 69, v 70, v 71, v 72, v 73, v 74, v 75, v 76], []⟩ (.inRegion ops8 (lin ops8 21 t #[true, true, true, false, false, true, true, false, false, false, false, false, false, false, false, false, false, false, false, false, false, false, false, false, false, false]) :: K)) cs) w := by
   intro t w hF
   refine goes_lin (rs := [3]) (by first | rfl | kernel_rfl) (by simp) (fun i hi t => ?_) t
   simp only [List.mem_cons, List.not_mem_nil, or_false] at hi
   rcases hi with rfl
   · refine Goes.mono (Goes.step (n := 137 + 60) rfl fun w₁ h₁ => ?_) (by omega)
     replace hF := rl hF h₁
     refine goes_oper_k rfl rfl (by decide) (fun K hK => ?_)
     simp only [ops8, tl8, cS, cF, cO, body8, Try.f8, Option.getD_some] at hK ⊢
     go_simp
     refine hK _ _ ⟨?_, ?_⟩
     · refine g_idle hD ?_
       intro e he
       have hm := mem_listed he
       simp [go_sem, *] at hm
     exact s4_5_6 _ _ hF
 have s5 : ∀ t w, F w → Goes Try.prog true AtRel (SD Shun) Stop (138 + 60) (G ((base 8).at ⟨#[v 0, v 1, ptr n0, v 3, v 4, .int .i64 (k + 1 : Nat), ptr (n0 + 2), ptr (n0 + 3), ptr (n0 + 4), ptr (n0 + 5), v 10, v 11, .slice fo n co, .int .i64 0, v 14, v 15, v 16, v 17, v 18, v 19, v 20, v 21, v 22, v 23, v 24, v 25, v 26, v 27, v 28, v 29, v 30, .int .i64 0, .bool false, .bool false, .slice fo n co, .int .i64 n, v 36, v 37, v 38, v 39, v 40, v 41, v 42, v 43, v 44, v 45, v 46, v 47, v 48, v 49, v 50, v 51, v 52, v 53, v 54, v 55, v 56, v 57, v 58, v 59, v 60, v 61, v 62, v 63, v 64, v 65, v 66, v 67, v 68, v 69, v 70, v 71, v 72, v 73, v 74, v 75, v 76], []⟩ (.inRegion ops8 (lin ops8 21 t #[true, true, true, true, true, false, false, false, false, false, false, false, false, false, false, false, false, false, false, false, false, false, false, false, false, false]) :: K)) cs) w := by
   intro t w hF
   refine goes_lin (rs := [5]) (by first | rfl | kernel_rfl) (by simp) (fun i hi t => ?_) t
   simp only [List.mem_cons, List.not_mem_nil, or_false] at hi
   rcases hi with rfl
   · refine Goes.mono (Goes.step (n := 137 + 60) rfl fun w₁ h₁ => ?_) (by omega)
     replace hF := rl hF h₁
     refine goes_oper_k rfl rfl (by decide) (fun K hK => ?_)
     have h1 := (hO _ hF).cn.2
     simp only [ops8, tl8, cS, cF, cO, body8, Try.f8, Option.getD_some] at hK ⊢
     go_simp
     refine hK _ _ ⟨sd_read fun e he => ?_, ?_⟩
     · have hm := mem_listed he
       simp [go_sem, h1] at hm
       exact ⟨_, _, _, hm, (hO _ hF).cn.1, cell_lt h1⟩
     exact s6 _ _ hF
 have s4_5 : ∀ t w, F w → Goes Try.prog true AtRel (SD Shun) Stop (138 + 60) (G ((base 8).at ⟨#[v 0, v 1, ptr n0, v 3, v 4, .int .i64 (k + 1 : Nat), ptr (n0 + 2), ptr (n0 + 3), ptr (n0 + 4), ptr (n0 + 5), v 10, v 11, .slice fo n co, .int .i64 0, v 14, v 15, v 16, v 17, v 18, v 19, v 20, v 21, v 22, v 23, v 24, v 25, v 26, v 27, v 28, v 29, v 30, .int .i64 0, .bool false, .bool false, .slice fo n co, v 35, .int .u8 n, v 37, v 38, v 39, v 40, v 41, v 42, v 43, v 44, v 45, v 46, v 47, v 48, v 49, v 50, v 51, v 52, v 53, v 54, v 55, v 56, v 57, v 58, v 59, v 60, v 61, v 62, v 63, v 64, v 65, v 66, v 67, v 68, v 69, v 70, v 71, v 72, v 73, v 74, v 75, v 76], []⟩ (.inRegion ops8 (lin ops8 21 t #[true, true, true, true, false, true, false, false, false, false, false, false, false, false, false, false, false, false, false, false, false, false, false, false, false, false]) :: K)) cs) w := by
   intro t w hF
   refine goes_lin (rs := [4, 6]) (by first | rfl | kernel_rfl) (by simp) (fun i hi t => ?_) t
   simp only [List.mem_cons, List.not_mem_nil, or_false] at hi
   rcases hi with rfl | rfl
   · refine Goes.mono (Goes.step (n := 137 + 60) rfl fun w₁ h₁ => ?_) (by omega)
     replace hF := rl hF h₁
     refine goes_oper_k rfl rfl (by decide) (fun K hK => ?_)
     simp only [ops8, tl8, cS, cF, cO, body8, Try.f8, Option.getD_some] at hK ⊢
     go_simp
     refine hK _ _ ⟨?_, ?_⟩
     · refine g_idle hD ?_
       intro e he
       have hm := mem_listed he
       simp [go_sem, *] at hm
     exact s6 _ _ hF
   · refine Goes.mono (Goes.step (n := 137 + 60) rfl fun w₁ h₁ => ?_) (by omega)
     replace hF := rl hF h₁
     refine goes_oper_k rfl rfl (by decide) (fun K hK => ?_)
     simp only [ops8, tl8, cS, cF, cO, body8, Try.f8, Option.getD_some] at hK ⊢
     go_simp
     refine hK _ _ ⟨?_, ?_⟩
     · refine g_idle hD ?_
       intro e he
       have hm := mem_listed he
       simp [go_sem, *] at hm
     exact s4_5_6 _ _ hF
 have s3_5 : ∀ t w, F w → Goes Try.prog true AtRel (SD Shun) Stop (139 + 60) (G ((base 8).at ⟨#[v 0, v 1, ptr n0, v 3, v 4, .int .i64 (k + 1 : Nat), ptr (n0 + 2), ptr (n0 + 3), ptr (n0 + 4), ptr (n0 + 5), v 10, v 11, .slice fo n co, .int .i64 0, v 14, v 15, v 16, v 17, v 18, v 19, v 20, v 21, v 22, v 23, v 24, v 25, v 26, v 27, v 28, v 29, v 30, .int .i64 0, .bool false, .bool false, v 34, v 35, .int .u8 n, v 37, v 38, v 39, v 40, v 41, v 42, v 43, v 44, v 45, v 46, v 47, v 48, v 49, v 50, v 51, v 52, v 53, v 54, v 55, v 56, v 57, v 58, v 59, v 60, v 61, v 62, v 63, v 64, v 65, v 66, v 67, v 68, v 69, v 70, v 71, v 72, v 73, v 74, v 75, v 76], []⟩ (.inRegion ops8 (lin ops8 22 t #[true, true, true, false, false, true, false, false, false, false, false, false, false, false, false, false, false, false, false, false, false, false, false, false, false, false]) :: K)) cs) w := by
   intro t w hF
   refine goes_lin (rs := [3, 6]) (by first | rfl | kernel_rfl) (by simp) (fun i hi t => ?_) t
   simp only [List.mem_cons, List.not_mem_nil, or_false] at hi
   rcases hi with rfl | rfl
   · refine Goes.mono (Goes.step (n := 138 + 60) rfl fun w₁ h₁ => ?_) (by omega)
     replace hF := rl hF h₁
     refine goes_oper_k rfl rfl (by decide) (fun K hK => ?_)
     simp only [ops8, tl8, cS, cF, cO, body8, Try.f8, Option.getD_some] at hK ⊢
     go_simp
     refine hK _ _ ⟨?_, ?_⟩
     · refine g_idle hD ?_
       intro e he
       have hm := mem_listed he
       simp [go_sem, *] at hm
     exact s4_5 _ _ hF
   · refine Goes.mono (Goes.step (n := 138 + 60) rfl fun w₁ h₁ => ?_) (by omega)
     replace hF := rl hF h₁
     refine goes_oper_k rfl rfl (by decide) (fun K hK => ?_)
     simp only [ops8, tl8, cS, cF, cO, body8, Try.f8, Option.getD_some] at hK ⊢
     go_simp
     refine hK _ _ ⟨?_, ?_⟩
     · refine g_idle hD ?_
       intro e he
       have hm := mem_listed he
       simp [go_sem, *] at hm
     exact s3_5_6 _ _ hF
 have s4 : ∀ t w, F w → Goes Try.prog true AtRel (SD Shun) Stop (139 + 60) (G ((base 8).at ⟨#[v 0, v 1, ptr n0, v 3, v 4, .int .i64 (k + 1 : Nat), ptr (n0 + 2), ptr (n0 + 3), ptr (n0 + 4), ptr (n0 + 5), v 10, v 11, .slice fo n co, .int .i64 0, v 14, v 15, v 16, v 17, v 18, v 19, v 20, v 21, v 22, v 23, v 24, v 25, v 26, v 27, v 28, v 29, v 30, .int .i64 0, .bool false, .bool false, .slice fo n co, v 35, v 36, v 37, v 38, v 39, v 40, v 41, v 42, v 43, v 44, v 45, v 46, v 47, v 48, v 49, v 50, v 51, v 52, v 53, v 54, v 55, v 56, v 57, v 58, v 59, v 60, v 61, v 62, v 63, v 64, v 65, v 66, v 67, v 68, v 69, v 70, v 71, v 72, v 73, v 74, v 75, v 76], []⟩ (.inRegion ops8 (lin ops8 22 t #[true, true, true, true, false, false, false, false, false, false, false, false, false, false, false, false, false, false, false, false, false, false, false, false, false, false]) :: K)) cs) w := by
   intro t w hF
   refine goes_lin (rs := [4, 5]) (by first | rfl | kernel_rfl) (by simp) (fun i hi t => ?_) t
   simp only [List.mem_cons, List.not_mem_nil, or_false] at hi
   rcases hi with rfl | rfl
   · refine Goes.mono (Goes.step (n := 138 + 60) rfl fun w₁ h₁ => ?_) (by omega)
     replace hF := rl hF h₁
     refine goes_oper_k rfl rfl (by decide) (fun K hK => ?_)
     simp only [ops8, tl8, cS, cF, cO, body8, Try.f8, Option.getD_some] at hK ⊢
     go_simp
     refine hK _ _ ⟨?_, ?_⟩
     · refine g_idle hD ?_
       intro e he
       have hm := mem_listed he
       simp [go_sem, *] at hm
     exact s5 _ _ hF
   · refine Goes.mono (Goes.step (n := 138 + 60) rfl fun w₁ h₁ => ?_) (by omega)
     replace hF := rl hF h₁
     refine goes_oper_k rfl rfl (by decide) (fun K hK => ?_)
     have h1 := (hO _ hF).cn.2
     simp only [ops8, tl8, cS, cF, cO, body8, Try.f8, Option.getD_some] at hK ⊢
     go_simp
     refine hK _ _ ⟨sd_read fun e he => ?_, ?_⟩
     · have hm := mem_listed he
       simp [go_sem, h1] at hm
       exact ⟨_, _, _, hm, (hO _ hF).cn.1, cell_lt h1⟩
     exact s4_5 _ _ hF
 have s3 : ∀ t w, F w → Goes Try.prog true AtRel (SD Shun) Stop (140 + 60) (G ((base 8).at ⟨#[v 0, v 1, ptr n0, v 3, v 4, .int .i64 (k + 1 : Nat), ptr (n0 + 2), ptr (n0 + 3), ptr (n0 + 4), ptr (n0 + 5), v 10, v 11, .slice fo n co, .int .i64 0, v 14, v 15, v 16, v 17, v 18, v 19, v 20, v 21, v 22, v 23, v 24, v 25, v 26, v 27, v 28, v 29, v 30, .int .i64 0, .bool false, .bool false, v 34, v 35, v 36, v 37, v 38, v 39, v 40, v 41, v 42, v 43, v 44, v 45, v 46, v 47, v 48, v 49, v 50, v 51, v 52, v 53, v 54, v 55, v 56, v 57, v 58, v 59, v 60, v 61, v 62, v 63, v 64, v 65, v 66, v 67, v 68, v 69, v 70, v 71, v 72, v 73, v 74, v 75, v 76], []⟩ (.inRegion ops8 (lin ops8 23 t #[true, true, true, false, false, false, false, false, false, false, false, false, false, false, false, false, false, false, false, false, false, false, false, false, false, false]) :: K)) cs) w := by
   intro t w hF
   refine goes_lin (rs := [3, 5]) (by first | rfl | kernel_rfl) (by simp) (fun i hi t => ?_) t
   simp only [List.mem_cons, List.not_mem_nil, or_false] at hi
   rcases hi with rfl | rfl
   · refine Goes.mono (Goes.step (n := 139 + 60) rfl fun w₁ h₁ => ?_) (by omega)
     replace hF := rl hF h₁
     refine goes_oper_k rfl rfl (by decide) (fun K hK => ?_)
     simp only [ops8, tl8, cS, cF, cO, body8, Try.f8, Option.getD_some] at hK ⊢
     go_simp
     refine hK _ _ ⟨?_, ?_⟩
     · refine g_idle hD ?_
       intro e he
       have hm := mem_listed he
       simp [go_sem, *] at hm
     exact s4 _ _ hF
   · refine Goes.mono (Goes.step (n := 139 + 60) rfl fun w₁ h₁ => ?_) (by omega)
     replace hF := rl hF h₁
     refine goes_oper_k rfl rfl (by decide) (fun K hK => ?_)
     have h1 := (hO _ hF).cn.2
     simp only [ops8, tl8, cS, cF, cO, body8, Try.f8, Option.getD_some] at hK ⊢
     go_simp
     refine hK _ _ ⟨sd_read fun e he => ?_, ?_⟩
     · have hm := mem_listed he
       simp [go_sem, h1] at hm
       exact ⟨_, _, _, hm, (hO _ hF).cn.1, cell_lt h1⟩
     exact s3_5 _ _ hF
 have s2 : ∀ t w, F w → Goes Try.prog true AtRel (SD Shun) Stop (141 + 60) (G ((base 8).at ⟨#[v 0, v 1, ptr n0, v 3, v 4, .int .i64 (k + 1 : Nat), ptr (n0 + 2), ptr (n0 + 3), ptr (n0 + 4), ptr (n0 + 5), v 10, v 11, .slice fo n co, .int .i64 0, v 14, v 15, v 16, v 17, v 18, v 19, v 20, v 21, v 22, v 23, v 24, v 25, v 26, v 27, v 28, v 29, v 30, .int .i64 0, .bool false, v 33, v 34, v 35, v 36, v 37, v 38, v 39, v 40, v 41, v 42, v 43, v 44, v 45, v 46, v 47, v 48, v 49, v 50, v 51, v 52, v 53, v 54, v 55, v 56, v 57, v 58, v 59, v 60, v 61, v 62, v 63, v 64, v 65, v 66, v 67, v 68, v 69, v 70, v 71, v 72, v 73, v 74, v 75, v 76], []⟩ (.inRegion ops8 (lin ops8 24 t #[true, true, false, false, false, false, false, false, false, false, false, false, false, false, false, false, false, false, false, false, false, false, false, false, false, false]) :: K)) cs) w := by
   intro t w hF
   refine goes_lin (rs := [2]) (by first | rfl | kernel_rfl) (by simp) (fun i hi t => ?_) t
   simp only [List.mem_cons, List.not_mem_nil, or_false] at hi
   rcases hi with rfl
   · refine Goes.mono (Goes.step (n := 140 + 60) rfl fun w₁ h₁ => ?_) (by omega)
     replace hF := rl hF h₁
     refine goes_oper_k rfl rfl (by decide) (fun K hK => ?_)
     simp only [ops8, tl8, cS, cF, cO, body8, Try.f8, Option.getD_some] at hK ⊢
     go_simp
     refine hK _ _ ⟨?_, ?_⟩
     · refine g_idle hD ?_
       intro e he
       have hm := mem_listed he
       simp [go_sem, *] at hm
     exact s3 _ _ hF
 have s1 : ∀ t w, F w → Goes Try.prog true AtRel (SD Shun) Stop (142 + 60) (G ((base 8).at ⟨#[v 0, v 1, ptr n0, v 3, v 4, .int .i64 (k + 1 : Nat), ptr (n0 + 2), ptr (n0 + 3), ptr (n0 + 4), ptr (n0 + 5), v 10, v 11, .slice fo n co, .int .i64 0, v 14, v 15, v 16, v 17, v 18, v 19, v 20, v 21, v 22, v 23, v 24, v 25, v 26, v 27, v 28, v 29, v 30, .int .i64 0, v 32, v 33, v 34, v 35, v 36, v 37, v 38, v 39, v 40, v 41, v 42, v 43, v 44, v 45, v 46, v 47, v 48, v 49, v 50, v 51, v 52, v 53, v 54, v 55, v 56, v 57, v 58, v 59, v 60, v 61, v 62, v 63, v 64, v 65, v 66, v 67, v 68, v 69, v 70, v 71, v 72, v 73, v 74, v 75, v 76], []⟩ (.inRegion ops8 (lin ops8 25 t #[true, false, false, false, false, false, false, false, false, false, false, false, false, false, false, false, false, false, false, false, false, false, false, false, false, false]) :: K)) cs) w := by
   intro t w hF
   refine goes_lin (rs := [1]) (by first | rfl | kernel_rfl) (by simp) (fun i hi t => ?_) t
   simp only [List.mem_cons, List.not_mem_nil, or_false] at hi
   rcases hi with rfl
   · refine Goes.mono (Goes.step (n := 141 + 60) rfl fun w₁ h₁ => ?_) (by omega)
     replace hF := rl hF h₁
     refine goes_oper_k rfl rfl (by decide) (fun K hK => ?_)
     simp only [ops8, tl8, cS, cF, cO, body8, Try.f8, Option.getD_some] at hK ⊢
     go_simp
     refine hK _ _ ⟨?_, ?_⟩
     · refine g_idle hD ?_
       intro e he
       have hm := mem_listed he
       simp [go_sem, *] at hm
     exact s2 _ _ hF
 have s0 : ∀ t w, F w → Goes Try.prog true AtRel (SD Shun) Stop (143 + 60) (G ((base 8).at ⟨#[v 0, v 1, ptr n0, v 3, v 4, .int .i64 (k + 1 : Nat), ptr (n0 + 2), ptr (n0 + 3), ptr (n0 + 4), ptr (n0 + 5), v 10, v 11, .slice fo n co, .int .i64 0, v 14, v 15, v 16, v 17, v 18, v 19, v 20, v 21, v 22, v 23, v 24, v 25, v 26, v 27, v 28, v 29, v 30, v 31, v 32, v 33, v 34, v 35, v 36, v 37, v 38, v 39, v 40, v 41, v 42, v 43, v 44, v 45, v 46, v 47, v 48, v 49, v 50, v 51, v 52, v 53, v 54, v 55, v 56, v 57, v 58, v 59, v 60, v 61, v 62, v 63, v 64, v 65, v 66, v 67, v 68, v 69, v 70, v 71, v 72, v 73, v 74, v 75, v 76], []⟩ (.inRegion ops8 (lin ops8 26 t #[false, false, false, false, false, false, false, false, false, false, false, false, false, false, false, false, false, false, false, false, false, false, false, false, false, false]) :: K)) cs) w := by
   intro t w hF
   refine goes_lin (rs := [0]) (by first | rfl | kernel_rfl) (by simp) (fun i hi t => ?_) t
   simp only [List.mem_cons, List.not_mem_nil, or_false] at hi
   rcases hi with rfl
   · refine Goes.mono (Goes.step (n := 142 + 60) rfl fun w₁ h₁ => ?_) (by omega)
     replace hF := rl hF h₁
     refine goes_oper_k rfl rfl (by decide) (fun K hK => ?_)
     simp only [ops8, tl8, cS, cF, cO, body8, Try.f8, Option.getD_some] at hK ⊢
     go_simp
     refine hK _ _ ⟨?_, ?_⟩
     · refine g_idle hD ?_
       intro e he
       have hm := mem_listed he
       simp [go_sem, *] at hm
     exact s1 _ _ hF
 refine Goes.mono (goes_draw (n := 143 + 60) (by kernel_rfl) (fun w => ⟨Nat.le_refl _, fun e he => by simp at he⟩) fun w₁ h₁ t => ?_) (by omega)
 exact s0 t _ (rl (rl hF h₁) ⟨_, rfl⟩)
end
end Go.Proofs.Ytblpmdolclalnaa
