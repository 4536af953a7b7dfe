/- The worker of Map[int,int]: its round. Region 4 draws its order: one fact for each set of operations done. Made by gen_wkd.py. The worker of Map[int,int]: from a job received to its loop's head. Made by gen_wke.py. -/
import Derived.Test.YtblpmdolclalnaaQ09
import Derived.Test.YtblpmdolclalnaaQ17
set_option maxHeartbeats 16000000
set_option linter.unusedSimpArgs false
set_option linter.unusedVariables false
namespace Go.Proofs.Ytblpmdolclalnaa
open Go.Conc Go.RowKit Go.Conc.Lib Go.ConcR.Gen Go.ConcN.Gen
open Go.ConcR (WgAt KK stA smA rd wr mk DC0)
open Go.ConcN (WgLive)
noncomputable def ops27 : Array Oper := match lp27 with | .seq _ (.seq _ (.block _ (.seq _ (.region _ R _)))) => R | _ => #[]
noncomputable def k27 : List Item := match lp27 with | .seq _ (.seq _ (.block id _)) => [.inBlock id, .inLoop lp27, .inBlock 0] | _ => []
structure WkJ (own : Nat → Prop) (Got : Cells) (Rd : Nat → Prop) (Wg e8 e4 c : Nat) (fv : Value) (X : World → Prop) (bj : Nat) (n : Int) (p : Nat) (w : World) : Prop where
 f : WkF own Got Rd Wg e8 e4 c fv X w
 mine : own bj
 j0 : w.cell? ⟨bj, 0, none⟩ = some (.int .i64 n)
 j1 : w.cell? ⟨bj, 1, none⟩ = some (ptr p)
 gp : Got p 0
 pc : ∃ cs : Array Value, w.heap[p]? = some (.cells cs 3 (0, 0))
 p0 : ∃ v, w.cell? ⟨p, 0, none⟩ = some v
section
variable {own : Nat → Prop} {Got : Cells} {Rd : Nat → Prop} {Wg e8 e4 c : Nat} {fv : Value} {X : World → Prop} {bj p : Nat} {n : Int} {w w₁ : World}
theorem WkJ.rely (hX : Firm own Got Rd Wg X) (h : WkJ own Got Rd Wg e8 e4 c fv X bj n p w) (r : KR 66 Wg own Got Rd w w₁) : WkJ own Got Rd Wg e8 e4 c fv X bj n p w₁ := by
 obtain ⟨cs, hc⟩ := h.pc
 obtain ⟨cs', hc', _⟩ := r.form _ _ _ _ hc
 obtain ⟨v, hv⟩ := h.p0
 exact ⟨h.f.rely hX r, h.mine, (r.cell bj 0 (cell_lt h.j0) (.inl h.mine)).trans h.j0, (r.cell bj 1 (cell_lt h.j1) (.inl h.mine)).trans h.j1, h.gp, ⟨cs', hc'⟩, ⟨v, (r.cell p 0 (cell_lt hv) (.inr (.inl h.gp))).trans hv⟩⟩
set_option maxRecDepth 100000 in
theorem wk_draw {Stop₁ Stop : Goroutine → World → Prop} {r : Value} {nf : Nat} {t5 t7 v8 v9 v10 v11 v12 v13 v14 : Value} (hX : Firm own Got Rd Wg X)
   (hC : ∀ w, WkJ own Got Rd Wg e8 e4 c fv X bj n p w → ∀ (a : Act) (ops : Array Oper) (i : Nat) (rest : List Nat) (k : List Item) (o : Oper) (y z : Operand) (ats : Array TypeId), ops[i]? = some o → Region.wanted o (yielded ops a.tmps) = true →
     o.op = .call { callee := .value y, args := #[z], argTypes := ats } → a.eval y = fv → a.eval z = .int .i64 n →
     ∀ m, m ≤ 200 → (∀ w', WkJ own Got Rd Wg e8 e4 c fv X bj n p w' → Goo Try.prog false own (KR 66 Wg own Got Rd) (KD Wg own Got Rd) Stop m (G ((baseD 27).at (a.put o.dst (r)) (.inRegion ops rest :: k)) [bot]) w') →
     Goo Try.prog false own (KR 66 Wg own Got Rd) (KD Wg own Got Rd) Stop₁ (m + nf) (G ((baseD 27).at a (.inRegion ops (i :: rest) :: k)) [bot]) w)
   (hS : ∀ t w, WkJ own Got Rd Wg e8 e4 c fv X bj n p w → Goo Try.prog false own (KR 66 Wg own Got Rd) (KD Wg own Got Rd) Stop 90 (G ((baseD 27).at ⟨#[ptr Wg, ptr e8, ptr e4, ptr bj, .chan (some c), t5, .bool true, t7, .pointer (some ⟨bj, 1, none⟩), ptr p, fv, .pointer (some ⟨bj, 0, none⟩), .int .i64 n, r, ptr p], [dcall 28 #[ptr Wg]]⟩ (.inRegion ops27 (7 :: lin ops27 0 t #[true, true, true, true, true, true, true, true]) :: k27)) [bot]) w) (t : Nat) (hF : WkJ own Got Rd Wg e8 e4 c fv X bj n p w) :
   Goo Try.prog false own (KR 66 Wg own Got Rd) (KD Wg own Got Rd) Stop₁ (200 + nf) (G ((baseD 27).at ⟨#[ptr Wg, ptr e8, ptr e4, ptr bj, .chan (some c), t5, .bool true, t7, v8, v9, v10, v11, v12, v13, v14], [dcall 28 #[ptr Wg]]⟩ (.inRegion ops27 (lin ops27 8 t #[false, false, false, false, false, false, false, false]) :: k27)) [bot]) w := by
 have rl : ∀ {w w₁ : World}, WkJ own Got Rd Wg e8 e4 c fv X bj n p w → KR 66 Wg own Got Rd w w₁ → WkJ own Got Rd Wg e8 e4 c fv X bj n p w₁ := fun h r => h.rely hX r
 have s0123456 : ∀ t w, WkJ own Got Rd Wg e8 e4 c fv X bj n p w → Goo Try.prog false own (KR 66 Wg own Got Rd) (KD Wg own Got Rd) Stop (144) (G ((baseD 27).at ⟨#[ptr Wg, ptr e8, ptr e4, ptr bj, .chan (some c), t5, .bool true, t7, .pointer (some ⟨bj, 1, none⟩), ptr p, fv, .pointer (some ⟨bj, 0, none⟩), .int .i64 n, r, ptr p], [dcall 28 #[ptr Wg]]⟩ (.inRegion ops27 (lin ops27 1 t #[true, true, true, true, true, true, true, false]) :: k27)) [bot]) w := by
   intro t w hF
   refine goo_lin (rs := [7]) (by first | rfl | kernel_rfl) (by simp) (fun i hi t => ?_) t
   simp only [List.mem_cons, List.not_mem_nil, or_false] at hi
   rcases hi with rfl
   · exact (hS _ _ hF).mono (by omega)
 have s012345 : ∀ t w, WkJ own Got Rd Wg e8 e4 c fv X bj n p w → Goo Try.prog false own (KR 66 Wg own Got Rd) (KD Wg own Got Rd) Stop (152) (G ((baseD 27).at ⟨#[ptr Wg, ptr e8, ptr e4, ptr bj, .chan (some c), t5, .bool true, t7, .pointer (some ⟨bj, 1, none⟩), ptr p, fv, .pointer (some ⟨bj, 0, none⟩), .int .i64 n, r, v14], [dcall 28 #[ptr Wg]]⟩ (.inRegion ops27 (lin ops27 2 t #[true, true, true, true, true, true, false, false]) :: k27)) [bot]) w := by
   intro t w hF
   refine goo_lin (rs := [6]) (by first | rfl | kernel_rfl) (by simp) (fun i hi t => ?_) t
   simp only [List.mem_cons, List.not_mem_nil, or_false] at hi
   rcases hi with rfl
   · refine Goo.mono (Goo.step (n := (144)) rfl fun w₁ h₁ => ?_) (by omega)
     replace hF := rl hF h₁
     refine goes_oper_k rfl rfl (by decide) (fun K hK => ?_)
     simp only [ops27, lp27, lpOf, body27, Try.f27, Option.getD_some] at hK ⊢
     go_simp
     refine hK _ _ ⟨gua_read fun e he => ?_, fun _ => ?_⟩
     · have hm := mem_listed he
       simp [go_sem] at hm
     exact s0123456 _ _ hF
 have s01234 : ∀ t w, WkJ own Got Rd Wg e8 e4 c fv X bj n p w → Goo Try.prog false own (KR 66 Wg own Got Rd) (KD Wg own Got Rd) Stop₁ (160 + nf) (G ((baseD 27).at ⟨#[ptr Wg, ptr e8, ptr e4, ptr bj, .chan (some c), t5, .bool true, t7, .pointer (some ⟨bj, 1, none⟩), ptr p, fv, .pointer (some ⟨bj, 0, none⟩), .int .i64 n, v13, v14], [dcall 28 #[ptr Wg]]⟩ (.inRegion ops27 (lin ops27 3 t #[true, true, true, true, true, false, false, false]) :: k27)) [bot]) w := by
   intro t w hF
   refine goo_lin (rs := [5]) (by first | rfl | kernel_rfl) (by simp) (fun i hi t => ?_) t
   simp only [List.mem_cons, List.not_mem_nil, or_false] at hi
   rcases hi with rfl
   · refine Goo.mono (hC _ hF _ _ _ _ _ _ _ _ _ rfl rfl rfl rfl rfl (152) (by omega) ?_) (by omega)
     exact fun w' hF' => s012345 _ _ hF'
 have s02345 : ∀ t w, WkJ own Got Rd Wg e8 e4 c fv X bj n p w → Goo Try.prog false own (KR 66 Wg own Got Rd) (KD Wg own Got Rd) Stop (160) (G ((baseD 27).at ⟨#[ptr Wg, ptr e8, ptr e4, ptr bj, .chan (some c), t5, .bool true, t7, .pointer (some ⟨bj, 1, none⟩), v9, fv, .pointer (some ⟨bj, 0, none⟩), .int .i64 n, r, v14], [dcall 28 #[ptr Wg]]⟩ (.inRegion ops27 (lin ops27 3 t #[true, false, true, true, true, true, false, false]) :: k27)) [bot]) w := by
   intro t w hF
   refine goo_lin (rs := [1]) (by first | rfl | kernel_rfl) (by simp) (fun i hi t => ?_) t
   simp only [List.mem_cons, List.not_mem_nil, or_false] at hi
   rcases hi with rfl
   · refine Goo.mono (Goo.step (n := (152)) rfl fun w₁ h₁ => ?_) (by omega)
     replace hF := rl hF h₁
     refine goes_oper_k rfl rfl (by decide) (fun K hK => ?_)
     have h1 := hF.j1
     simp only [ops27, lp27, lpOf, body27, Try.f27, Option.getD_some] at hK ⊢
     go_simp
     refine hK _ _ ⟨gua_read fun e he => ?_, fun _ => ?_⟩
     · have hm := mem_listed he
       simp [go_sem, h1] at hm
       exact ⟨_, hm, cell_lt h1, .inl (.inl hF.mine)⟩
     exact s012345 _ _ hF
 have s0123 : ∀ t w, WkJ own Got Rd Wg e8 e4 c fv X bj n p w → Goo Try.prog false own (KR 66 Wg own Got Rd) (KD Wg own Got Rd) Stop₁ (168 + nf) (G ((baseD 27).at ⟨#[ptr Wg, ptr e8, ptr e4, ptr bj, .chan (some c), t5, .bool true, t7, .pointer (some ⟨bj, 1, none⟩), ptr p, fv, .pointer (some ⟨bj, 0, none⟩), v12, v13, v14], [dcall 28 #[ptr Wg]]⟩ (.inRegion ops27 (lin ops27 4 t #[true, true, true, true, false, false, false, false]) :: k27)) [bot]) w := by
   intro t w hF
   refine goo_lin (rs := [4]) (by first | rfl | kernel_rfl) (by simp) (fun i hi t => ?_) t
   simp only [List.mem_cons, List.not_mem_nil, or_false] at hi
   rcases hi with rfl
   · refine Goo.mono (Goo.step (n := (160 + nf)) rfl fun w₁ h₁ => ?_) (by omega)
     replace hF := rl hF h₁
     refine goes_oper_k rfl rfl (by decide) (fun K hK => ?_)
     have h1 := hF.j0
     simp only [ops27, lp27, lpOf, body27, Try.f27, Option.getD_some] at hK ⊢
     go_simp
     refine hK _ _ ⟨gua_read fun e he => ?_, fun _ => ?_⟩
     · have hm := mem_listed he
       simp [go_sem, h1] at hm
       exact ⟨_, hm, cell_lt h1, .inl (.inl hF.mine)⟩
     exact s01234 _ _ hF
 have s0134 : ∀ t w, WkJ own Got Rd Wg e8 e4 c fv X bj n p w → Goo Try.prog false own (KR 66 Wg own Got Rd) (KD Wg own Got Rd) Stop₁ (168 + nf) (G ((baseD 27).at ⟨#[ptr Wg, ptr e8, ptr e4, ptr bj, .chan (some c), t5, .bool true, t7, .pointer (some ⟨bj, 1, none⟩), ptr p, v10, .pointer (some ⟨bj, 0, none⟩), .int .i64 n, v13, v14], [dcall 28 #[ptr Wg]]⟩ (.inRegion ops27 (lin ops27 4 t #[true, true, false, true, true, false, false, false]) :: k27)) [bot]) w := by
   intro t w hF
   refine goo_lin (rs := [2]) (by first | rfl | kernel_rfl) (by simp) (fun i hi t => ?_) t
   simp only [List.mem_cons, List.not_mem_nil, or_false] at hi
   rcases hi with rfl
   · refine Goo.mono (Goo.step (n := (160 + nf)) rfl fun w₁ h₁ => ?_) (by omega)
     replace hF := rl hF h₁
     refine goes_oper_k rfl rfl (by decide) (fun K hK => ?_)
     have h1 := hF.f.fn
     simp only [ops27, lp27, lpOf, body27, Try.f27, Option.getD_some] at hK ⊢
     go_simp
     refine hK _ _ ⟨gua_read fun e he => ?_, fun _ => ?_⟩
     · have hm := mem_listed he
       simp [go_sem, h1] at hm
       exact ⟨_, hm, cell_lt h1, .inr (.inr (.inr hF.f.rd.2))⟩
     exact s01234 _ _ hF
 have s0234 : ∀ t w, WkJ own Got Rd Wg e8 e4 c fv X bj n p w → Goo Try.prog false own (KR 66 Wg own Got Rd) (KD Wg own Got Rd) Stop₁ (168 + nf) (G ((baseD 27).at ⟨#[ptr Wg, ptr e8, ptr e4, ptr bj, .chan (some c), t5, .bool true, t7, .pointer (some ⟨bj, 1, none⟩), v9, fv, .pointer (some ⟨bj, 0, none⟩), .int .i64 n, v13, v14], [dcall 28 #[ptr Wg]]⟩ (.inRegion ops27 (lin ops27 4 t #[true, false, true, true, true, false, false, false]) :: k27)) [bot]) w := by
   intro t w hF
   refine goo_lin (rs := [1, 5]) (by first | rfl | kernel_rfl) (by simp) (fun i hi t => ?_) t
   simp only [List.mem_cons, List.not_mem_nil, or_false] at hi
   rcases hi with rfl | rfl
   · refine Goo.mono (Goo.step (n := (160 + nf)) rfl fun w₁ h₁ => ?_) (by omega)
     replace hF := rl hF h₁
     refine goes_oper_k rfl rfl (by decide) (fun K hK => ?_)
     have h1 := hF.j1
     simp only [ops27, lp27, lpOf, body27, Try.f27, Option.getD_some] at hK ⊢
     go_simp
     refine hK _ _ ⟨gua_read fun e he => ?_, fun _ => ?_⟩
     · have hm := mem_listed he
       simp [go_sem, h1] at hm
       exact ⟨_, hm, cell_lt h1, .inl (.inl hF.mine)⟩
     exact s01234 _ _ hF
   · refine Goo.mono (hC _ hF _ _ _ _ _ _ _ _ _ rfl rfl rfl rfl rfl (160) (by omega) ?_) (by omega)
     exact fun w' hF' => s02345 _ _ hF'
 have s2345 : ∀ t w, WkJ own Got Rd Wg e8 e4 c fv X bj n p w → Goo Try.prog false own (KR 66 Wg own Got Rd) (KD Wg own Got Rd) Stop (168) (G ((baseD 27).at ⟨#[ptr Wg, ptr e8, ptr e4, ptr bj, .chan (some c), t5, .bool true, t7, v8, v9, fv, .pointer (some ⟨bj, 0, none⟩), .int .i64 n, r, v14], [dcall 28 #[ptr Wg]]⟩ (.inRegion ops27 (lin ops27 4 t #[false, false, true, true, true, true, false, false]) :: k27)) [bot]) w := by
   intro t w hF
   refine goo_lin (rs := [0]) (by first | rfl | kernel_rfl) (by simp) (fun i hi t => ?_) t
   simp only [List.mem_cons, List.not_mem_nil, or_false] at hi
   rcases hi with rfl
   · refine Goo.mono (Goo.step (n := (160)) rfl fun w₁ h₁ => ?_) (by omega)
     replace hF := rl hF h₁
     refine goes_oper_k rfl rfl (by decide) (fun K hK => ?_)
     simp only [ops27, lp27, lpOf, body27, Try.f27, Option.getD_some] at hK ⊢
     go_simp
     refine hK _ _ ⟨gua_read fun e he => ?_, fun _ => ?_⟩
     · have hm := mem_listed he
       simp [go_sem] at hm
     exact s02345 _ _ hF
 have s012 : ∀ t w, WkJ own Got Rd Wg e8 e4 c fv X bj n p w → Goo Try.prog false own (KR 66 Wg own Got Rd) (KD Wg own Got Rd) Stop₁ (176 + nf) (G ((baseD 27).at ⟨#[ptr Wg, ptr e8, ptr e4, ptr bj, .chan (some c), t5, .bool true, t7, .pointer (some ⟨bj, 1, none⟩), ptr p, fv, v11, v12, v13, v14], [dcall 28 #[ptr Wg]]⟩ (.inRegion ops27 (lin ops27 5 t #[true, true, true, false, false, false, false, false]) :: k27)) [bot]) w := by
   intro t w hF
   refine goo_lin (rs := [3]) (by first | rfl | kernel_rfl) (by simp) (fun i hi t => ?_) t
   simp only [List.mem_cons, List.not_mem_nil, or_false] at hi
   rcases hi with rfl
   · refine Goo.mono (Goo.step (n := (168 + nf)) rfl fun w₁ h₁ => ?_) (by omega)
     replace hF := rl hF h₁
     refine goes_oper_k rfl rfl (by decide) (fun K hK => ?_)
     simp only [ops27, lp27, lpOf, body27, Try.f27, Option.getD_some] at hK ⊢
     go_simp
     refine hK _ _ ⟨gua_read fun e he => ?_, fun _ => ?_⟩
     · have hm := mem_listed he
       simp [go_sem] at hm
     exact s0123 _ _ hF
 have s013 : ∀ t w, WkJ own Got Rd Wg e8 e4 c fv X bj n p w → Goo Try.prog false own (KR 66 Wg own Got Rd) (KD Wg own Got Rd) Stop₁ (176 + nf) (G ((baseD 27).at ⟨#[ptr Wg, ptr e8, ptr e4, ptr bj, .chan (some c), t5, .bool true, t7, .pointer (some ⟨bj, 1, none⟩), ptr p, v10, .pointer (some ⟨bj, 0, none⟩), v12, v13, v14], [dcall 28 #[ptr Wg]]⟩ (.inRegion ops27 (lin ops27 5 t #[true, true, false, true, false, false, false, false]) :: k27)) [bot]) w := by
   intro t w hF
   refine goo_lin (rs := [2, 4]) (by first | rfl | kernel_rfl) (by simp) (fun i hi t => ?_) t
   simp only [List.mem_cons, List.not_mem_nil, or_false] at hi
   rcases hi with rfl | rfl
   · refine Goo.mono (Goo.step (n := (168 + nf)) rfl fun w₁ h₁ => ?_) (by omega)
     replace hF := rl hF h₁
     refine goes_oper_k rfl rfl (by decide) (fun K hK => ?_)
     have h1 := hF.f.fn
     simp only [ops27, lp27, lpOf, body27, Try.f27, Option.getD_some] at hK ⊢
     go_simp
     refine hK _ _ ⟨gua_read fun e he => ?_, fun _ => ?_⟩
     · have hm := mem_listed he
       simp [go_sem, h1] at hm
       exact ⟨_, hm, cell_lt h1, .inr (.inr (.inr hF.f.rd.2))⟩
     exact s0123 _ _ hF
   · refine Goo.mono (Goo.step (n := (168 + nf)) rfl fun w₁ h₁ => ?_) (by omega)
     replace hF := rl hF h₁
     refine goes_oper_k rfl rfl (by decide) (fun K hK => ?_)
     have h1 := hF.j0
     simp only [ops27, lp27, lpOf, body27, Try.f27, Option.getD_some] at hK ⊢
     go_simp
     refine hK _ _ ⟨gua_read fun e he => ?_, fun _ => ?_⟩
     · have hm := mem_listed he
       simp [go_sem, h1] at hm
       exact ⟨_, hm, cell_lt h1, .inl (.inl hF.mine)⟩
     exact s0134 _ _ hF
 have s023 : ∀ t w, WkJ own Got Rd Wg e8 e4 c fv X bj n p w → Goo Try.prog false own (KR 66 Wg own Got Rd) (KD Wg own Got Rd) Stop₁ (176 + nf) (G ((baseD 27).at ⟨#[ptr Wg, ptr e8, ptr e4, ptr bj, .chan (some c), t5, .bool true, t7, .pointer (some ⟨bj, 1, none⟩), v9, fv, .pointer (some ⟨bj, 0, none⟩), v12, v13, v14], [dcall 28 #[ptr Wg]]⟩ (.inRegion ops27 (lin ops27 5 t #[true, false, true, true, false, false, false, false]) :: k27)) [bot]) w := by
   intro t w hF
   refine goo_lin (rs := [1, 4]) (by first | rfl | kernel_rfl) (by simp) (fun i hi t => ?_) t
   simp only [List.mem_cons, List.not_mem_nil, or_false] at hi
   rcases hi with rfl | rfl
   · refine Goo.mono (Goo.step (n := (168 + nf)) rfl fun w₁ h₁ => ?_) (by omega)
     replace hF := rl hF h₁
     refine goes_oper_k rfl rfl (by decide) (fun K hK => ?_)
     have h1 := hF.j1
     simp only [ops27, lp27, lpOf, body27, Try.f27, Option.getD_some] at hK ⊢
     go_simp
     refine hK _ _ ⟨gua_read fun e he => ?_, fun _ => ?_⟩
     · have hm := mem_listed he
       simp [go_sem, h1] at hm
       exact ⟨_, hm, cell_lt h1, .inl (.inl hF.mine)⟩
     exact s0123 _ _ hF
   · refine Goo.mono (Goo.step (n := (168 + nf)) rfl fun w₁ h₁ => ?_) (by omega)
     replace hF := rl hF h₁
     refine goes_oper_k rfl rfl (by decide) (fun K hK => ?_)
     have h1 := hF.j0
     simp only [ops27, lp27, lpOf, body27, Try.f27, Option.getD_some] at hK ⊢
     go_simp
     refine hK _ _ ⟨gua_read fun e he => ?_, fun _ => ?_⟩
     · have hm := mem_listed he
       simp [go_sem, h1] at hm
       exact ⟨_, hm, cell_lt h1, .inl (.inl hF.mine)⟩
     exact s0234 _ _ hF
 have s034 : ∀ t w, WkJ own Got Rd Wg e8 e4 c fv X bj n p w → Goo Try.prog false own (KR 66 Wg own Got Rd) (KD Wg own Got Rd) Stop₁ (176 + nf) (G ((baseD 27).at ⟨#[ptr Wg, ptr e8, ptr e4, ptr bj, .chan (some c), t5, .bool true, t7, .pointer (some ⟨bj, 1, none⟩), v9, v10, .pointer (some ⟨bj, 0, none⟩), .int .i64 n, v13, v14], [dcall 28 #[ptr Wg]]⟩ (.inRegion ops27 (lin ops27 5 t #[true, false, false, true, true, false, false, false]) :: k27)) [bot]) w := by
   intro t w hF
   refine goo_lin (rs := [1, 2]) (by first | rfl | kernel_rfl) (by simp) (fun i hi t => ?_) t
   simp only [List.mem_cons, List.not_mem_nil, or_false] at hi
   rcases hi with rfl | rfl
   · refine Goo.mono (Goo.step (n := (168 + nf)) rfl fun w₁ h₁ => ?_) (by omega)
     replace hF := rl hF h₁
     refine goes_oper_k rfl rfl (by decide) (fun K hK => ?_)
     have h1 := hF.j1
     simp only [ops27, lp27, lpOf, body27, Try.f27, Option.getD_some] at hK ⊢
     go_simp
     refine hK _ _ ⟨gua_read fun e he => ?_, fun _ => ?_⟩
     · have hm := mem_listed he
       simp [go_sem, h1] at hm
       exact ⟨_, hm, cell_lt h1, .inl (.inl hF.mine)⟩
     exact s0134 _ _ hF
   · refine Goo.mono (Goo.step (n := (168 + nf)) rfl fun w₁ h₁ => ?_) (by omega)
     replace hF := rl hF h₁
     refine goes_oper_k rfl rfl (by decide) (fun K hK => ?_)
     have h1 := hF.f.fn
     simp only [ops27, lp27, lpOf, body27, Try.f27, Option.getD_some] at hK ⊢
     go_simp
     refine hK _ _ ⟨gua_read fun e he => ?_, fun _ => ?_⟩
     · have hm := mem_listed he
       simp [go_sem, h1] at hm
       exact ⟨_, hm, cell_lt h1, .inr (.inr (.inr hF.f.rd.2))⟩
     exact s0234 _ _ hF
 have s234 : ∀ t w, WkJ own Got Rd Wg e8 e4 c fv X bj n p w → Goo Try.prog false own (KR 66 Wg own Got Rd) (KD Wg own Got Rd) Stop₁ (176 + nf) (G ((baseD 27).at ⟨#[ptr Wg, ptr e8, ptr e4, ptr bj, .chan (some c), t5, .bool true, t7, v8, v9, fv, .pointer (some ⟨bj, 0, none⟩), .int .i64 n, v13, v14], [dcall 28 #[ptr Wg]]⟩ (.inRegion ops27 (lin ops27 5 t #[false, false, true, true, true, false, false, false]) :: k27)) [bot]) w := by
   intro t w hF
   refine goo_lin (rs := [0, 5]) (by first | rfl | kernel_rfl) (by simp) (fun i hi t => ?_) t
   simp only [List.mem_cons, List.not_mem_nil, or_false] at hi
   rcases hi with rfl | rfl
   · refine Goo.mono (Goo.step (n := (168 + nf)) rfl fun w₁ h₁ => ?_) (by omega)
     replace hF := rl hF h₁
     refine goes_oper_k rfl rfl (by decide) (fun K hK => ?_)
     simp only [ops27, lp27, lpOf, body27, Try.f27, Option.getD_some] at hK ⊢
     go_simp
     refine hK _ _ ⟨gua_read fun e he => ?_, fun _ => ?_⟩
     · have hm := mem_listed he
       simp [go_sem] at hm
     exact s0234 _ _ hF
   · refine Goo.mono (hC _ hF _ _ _ _ _ _ _ _ _ rfl rfl rfl rfl rfl (168) (by omega) ?_) (by omega)
     exact fun w' hF' => s2345 _ _ hF'
 have s01 : ∀ t w, WkJ own Got Rd Wg e8 e4 c fv X bj n p w → Goo Try.prog false own (KR 66 Wg own Got Rd) (KD Wg own Got Rd) Stop₁ (184 + nf) (G ((baseD 27).at ⟨#[ptr Wg, ptr e8, ptr e4, ptr bj, .chan (some c), t5, .bool true, t7, .pointer (some ⟨bj, 1, none⟩), ptr p, v10, v11, v12, v13, v14], [dcall 28 #[ptr Wg]]⟩ (.inRegion ops27 (lin ops27 6 t #[true, true, false, false, false, false, false, false]) :: k27)) [bot]) w := by
   intro t w hF
   refine goo_lin (rs := [2, 3]) (by first | rfl | kernel_rfl) (by simp) (fun i hi t => ?_) t
   simp only [List.mem_cons, List.not_mem_nil, or_false] at hi
   rcases hi with rfl | rfl
   · refine Goo.mono (Goo.step (n := (176 + nf)) rfl fun w₁ h₁ => ?_) (by omega)
     replace hF := rl hF h₁
     refine goes_oper_k rfl rfl (by decide) (fun K hK => ?_)
     have h1 := hF.f.fn
     simp only [ops27, lp27, lpOf, body27, Try.f27, Option.getD_some] at hK ⊢
     go_simp
     refine hK _ _ ⟨gua_read fun e he => ?_, fun _ => ?_⟩
     · have hm := mem_listed he
       simp [go_sem, h1] at hm
       exact ⟨_, hm, cell_lt h1, .inr (.inr (.inr hF.f.rd.2))⟩
     exact s012 _ _ hF
   · refine Goo.mono (Goo.step (n := (176 + nf)) rfl fun w₁ h₁ => ?_) (by omega)
     replace hF := rl hF h₁
     refine goes_oper_k rfl rfl (by decide) (fun K hK => ?_)
     simp only [ops27, lp27, lpOf, body27, Try.f27, Option.getD_some] at hK ⊢
     go_simp
     refine hK _ _ ⟨gua_read fun e he => ?_, fun _ => ?_⟩
     · have hm := mem_listed he
       simp [go_sem] at hm
     exact s013 _ _ hF
 have s02 : ∀ t w, WkJ own Got Rd Wg e8 e4 c fv X bj n p w → Goo Try.prog false own (KR 66 Wg own Got Rd) (KD Wg own Got Rd) Stop₁ (184 + nf) (G ((baseD 27).at ⟨#[ptr Wg, ptr e8, ptr e4, ptr bj, .chan (some c), t5, .bool true, t7, .pointer (some ⟨bj, 1, none⟩), v9, fv, v11, v12, v13, v14], [dcall 28 #[ptr Wg]]⟩ (.inRegion ops27 (lin ops27 6 t #[true, false, true, false, false, false, false, false]) :: k27)) [bot]) w := by
   intro t w hF
   refine goo_lin (rs := [1, 3]) (by first | rfl | kernel_rfl) (by simp) (fun i hi t => ?_) t
   simp only [List.mem_cons, List.not_mem_nil, or_false] at hi
   rcases hi with rfl | rfl
   · refine Goo.mono (Goo.step (n := (176 + nf)) rfl fun w₁ h₁ => ?_) (by omega)
     replace hF := rl hF h₁
     refine goes_oper_k rfl rfl (by decide) (fun K hK => ?_)
     have h1 := hF.j1
     simp only [ops27, lp27, lpOf, body27, Try.f27, Option.getD_some] at hK ⊢
     go_simp
     refine hK _ _ ⟨gua_read fun e he => ?_, fun _ => ?_⟩
     · have hm := mem_listed he
       simp [go_sem, h1] at hm
       exact ⟨_, hm, cell_lt h1, .inl (.inl hF.mine)⟩
     exact s012 _ _ hF
   · refine Goo.mono (Goo.step (n := (176 + nf)) rfl fun w₁ h₁ => ?_) (by omega)
     replace hF := rl hF h₁
     refine goes_oper_k rfl rfl (by decide) (fun K hK => ?_)
     simp only [ops27, lp27, lpOf, body27, Try.f27, Option.getD_some] at hK ⊢
     go_simp
     refine hK _ _ ⟨gua_read fun e he => ?_, fun _ => ?_⟩
     · have hm := mem_listed he
       simp [go_sem] at hm
     exact s023 _ _ hF
 have s03 : ∀ t w, WkJ own Got Rd Wg e8 e4 c fv X bj n p w → Goo Try.prog false own (KR 66 Wg own Got Rd) (KD Wg own Got Rd) Stop₁ (184 + nf) (G ((baseD 27).at ⟨#[ptr Wg, ptr e8, ptr e4, ptr bj, .chan (some c), t5, .bool true, t7, .pointer (some ⟨bj, 1, none⟩), v9, v10, .pointer (some ⟨bj, 0, none⟩), v12, v13, v14], [dcall 28 #[ptr Wg]]⟩ (.inRegion ops27 (lin ops27 6 t #[true, false, false, true, false, false, false, false]) :: k27)) [bot]) w := by
   intro t w hF
   refine goo_lin (rs := [1, 2, 4]) (by first | rfl | kernel_rfl) (by simp) (fun i hi t => ?_) t
   simp only [List.mem_cons, List.not_mem_nil, or_false] at hi
   rcases hi with rfl | rfl | rfl
   · refine Goo.mono (Goo.step (n := (176 + nf)) rfl fun w₁ h₁ => ?_) (by omega)
     replace hF := rl hF h₁
     refine goes_oper_k rfl rfl (by decide) (fun K hK => ?_)
     have h1 := hF.j1
     simp only [ops27, lp27, lpOf, body27, Try.f27, Option.getD_some] at hK ⊢
     go_simp
     refine hK _ _ ⟨gua_read fun e he => ?_, fun _ => ?_⟩
     · have hm := mem_listed he
       simp [go_sem, h1] at hm
       exact ⟨_, hm, cell_lt h1, .inl (.inl hF.mine)⟩
     exact s013 _ _ hF
   · refine Goo.mono (Goo.step (n := (176 + nf)) rfl fun w₁ h₁ => ?_) (by omega)
     replace hF := rl hF h₁
     refine goes_oper_k rfl rfl (by decide) (fun K hK => ?_)
     have h1 := hF.f.fn
     simp only [ops27, lp27, lpOf, body27, Try.f27, Option.getD_some] at hK ⊢
     go_simp
     refine hK _ _ ⟨gua_read fun e he => ?_, fun _ => ?_⟩
     · have hm := mem_listed he
       simp [go_sem, h1] at hm
       exact ⟨_, hm, cell_lt h1, .inr (.inr (.inr hF.f.rd.2))⟩
     exact s023 _ _ hF
   · refine Goo.mono (Goo.step (n := (176 + nf)) rfl fun w₁ h₁ => ?_) (by omega)
     replace hF := rl hF h₁
     refine goes_oper_k rfl rfl (by decide) (fun K hK => ?_)
     have h1 := hF.j0
     simp only [ops27, lp27, lpOf, body27, Try.f27, Option.getD_some] at hK ⊢
     go_simp
     refine hK _ _ ⟨gua_read fun e he => ?_, fun _ => ?_⟩
     · have hm := mem_listed he
       simp [go_sem, h1] at hm
       exact ⟨_, hm, cell_lt h1, .inl (.inl hF.mine)⟩
     exact s034 _ _ hF
 have s23 : ∀ t w, WkJ own Got Rd Wg e8 e4 c fv X bj n p w → Goo Try.prog false own (KR 66 Wg own Got Rd) (KD Wg own Got Rd) Stop₁ (184 + nf) (G ((baseD 27).at ⟨#[ptr Wg, ptr e8, ptr e4, ptr bj, .chan (some c), t5, .bool true, t7, v8, v9, fv, .pointer (some ⟨bj, 0, none⟩), v12, v13, v14], [dcall 28 #[ptr Wg]]⟩ (.inRegion ops27 (lin ops27 6 t #[false, false, true, true, false, false, false, false]) :: k27)) [bot]) w := by
   intro t w hF
   refine goo_lin (rs := [0, 4]) (by first | rfl | kernel_rfl) (by simp) (fun i hi t => ?_) t
   simp only [List.mem_cons, List.not_mem_nil, or_false] at hi
   rcases hi with rfl | rfl
   · refine Goo.mono (Goo.step (n := (176 + nf)) rfl fun w₁ h₁ => ?_) (by omega)
     replace hF := rl hF h₁
     refine goes_oper_k rfl rfl (by decide) (fun K hK => ?_)
     simp only [ops27, lp27, lpOf, body27, Try.f27, Option.getD_some] at hK ⊢
     go_simp
     refine hK _ _ ⟨gua_read fun e he => ?_, fun _ => ?_⟩
     · have hm := mem_listed he
       simp [go_sem] at hm
     exact s023 _ _ hF
   · refine Goo.mono (Goo.step (n := (176 + nf)) rfl fun w₁ h₁ => ?_) (by omega)
     replace hF := rl hF h₁
     refine goes_oper_k rfl rfl (by decide) (fun K hK => ?_)
     have h1 := hF.j0
     simp only [ops27, lp27, lpOf, body27, Try.f27, Option.getD_some] at hK ⊢
     go_simp
     refine hK _ _ ⟨gua_read fun e he => ?_, fun _ => ?_⟩
     · have hm := mem_listed he
       simp [go_sem, h1] at hm
       exact ⟨_, hm, cell_lt h1, .inl (.inl hF.mine)⟩
     exact s234 _ _ hF
 have s34 : ∀ t w, WkJ own Got Rd Wg e8 e4 c fv X bj n p w → Goo Try.prog false own (KR 66 Wg own Got Rd) (KD Wg own Got Rd) Stop₁ (184 + nf) (G ((baseD 27).at ⟨#[ptr Wg, ptr e8, ptr e4, ptr bj, .chan (some c), t5, .bool true, t7, v8, v9, v10, .pointer (some ⟨bj, 0, none⟩), .int .i64 n, v13, v14], [dcall 28 #[ptr Wg]]⟩ (.inRegion ops27 (lin ops27 6 t #[false, false, false, true, true, false, false, false]) :: k27)) [bot]) w := by
   intro t w hF
   refine goo_lin (rs := [0, 2]) (by first | rfl | kernel_rfl) (by simp) (fun i hi t => ?_) t
   simp only [List.mem_cons, List.not_mem_nil, or_false] at hi
   rcases hi with rfl | rfl
   · refine Goo.mono (Goo.step (n := (176 + nf)) rfl fun w₁ h₁ => ?_) (by omega)
     replace hF := rl hF h₁
     refine goes_oper_k rfl rfl (by decide) (fun K hK => ?_)
     simp only [ops27, lp27, lpOf, body27, Try.f27, Option.getD_some] at hK ⊢
     go_simp
     refine hK _ _ ⟨gua_read fun e he => ?_, fun _ => ?_⟩
     · have hm := mem_listed he
       simp [go_sem] at hm
     exact s034 _ _ hF
   · refine Goo.mono (Goo.step (n := (176 + nf)) rfl fun w₁ h₁ => ?_) (by omega)
     replace hF := rl hF h₁
     refine goes_oper_k rfl rfl (by decide) (fun K hK => ?_)
     have h1 := hF.f.fn
     simp only [ops27, lp27, lpOf, body27, Try.f27, Option.getD_some] at hK ⊢
     go_simp
     refine hK _ _ ⟨gua_read fun e he => ?_, fun _ => ?_⟩
     · have hm := mem_listed he
       simp [go_sem, h1] at hm
       exact ⟨_, hm, cell_lt h1, .inr (.inr (.inr hF.f.rd.2))⟩
     exact s234 _ _ hF
 have s0 : ∀ t w, WkJ own Got Rd Wg e8 e4 c fv X bj n p w → Goo Try.prog false own (KR 66 Wg own Got Rd) (KD Wg own Got Rd) Stop₁ (192 + nf) (G ((baseD 27).at ⟨#[ptr Wg, ptr e8, ptr e4, ptr bj, .chan (some c), t5, .bool true, t7, .pointer (some ⟨bj, 1, none⟩), v9, v10, v11, v12, v13, v14], [dcall 28 #[ptr Wg]]⟩ (.inRegion ops27 (lin ops27 7 t #[true, false, false, false, false, false, false, false]) :: k27)) [bot]) w := by
   intro t w hF
   refine goo_lin (rs := [1, 2, 3]) (by first | rfl | kernel_rfl) (by simp) (fun i hi t => ?_) t
   simp only [List.mem_cons, List.not_mem_nil, or_false] at hi
   rcases hi with rfl | rfl | rfl
   · refine Goo.mono (Goo.step (n := (184 + nf)) rfl fun w₁ h₁ => ?_) (by omega)
     replace hF := rl hF h₁
     refine goes_oper_k rfl rfl (by decide) (fun K hK => ?_)
     have h1 := hF.j1
     simp only [ops27, lp27, lpOf, body27, Try.f27, Option.getD_some] at hK ⊢
     go_simp
     refine hK _ _ ⟨gua_read fun e he => ?_, fun _ => ?_⟩
     · have hm := mem_listed he
       simp [go_sem, h1] at hm
       exact ⟨_, hm, cell_lt h1, .inl (.inl hF.mine)⟩
     exact s01 _ _ hF
   · refine Goo.mono (Goo.step (n := (184 + nf)) rfl fun w₁ h₁ => ?_) (by omega)
     replace hF := rl hF h₁
     refine goes_oper_k rfl rfl (by decide) (fun K hK => ?_)
     have h1 := hF.f.fn
     simp only [ops27, lp27, lpOf, body27, Try.f27, Option.getD_some] at hK ⊢
     go_simp
     refine hK _ _ ⟨gua_read fun e he => ?_, fun _ => ?_⟩
     · have hm := mem_listed he
       simp [go_sem, h1] at hm
       exact ⟨_, hm, cell_lt h1, .inr (.inr (.inr hF.f.rd.2))⟩
     exact s02 _ _ hF
   · refine Goo.mono (Goo.step (n := (184 + nf)) rfl fun w₁ h₁ => ?_) (by omega)
     replace hF := rl hF h₁
     refine goes_oper_k rfl rfl (by decide) (fun K hK => ?_)
     simp only [ops27, lp27, lpOf, body27, Try.f27, Option.getD_some] at hK ⊢
     go_simp
     refine hK _ _ ⟨gua_read fun e he => ?_, fun _ => ?_⟩
     · have hm := mem_listed he
       simp [go_sem] at hm
     exact s03 _ _ hF
 have s2 : ∀ t w, WkJ own Got Rd Wg e8 e4 c fv X bj n p w → Goo Try.prog false own (KR 66 Wg own Got Rd) (KD Wg own Got Rd) Stop₁ (192 + nf) (G ((baseD 27).at ⟨#[ptr Wg, ptr e8, ptr e4, ptr bj, .chan (some c), t5, .bool true, t7, v8, v9, fv, v11, v12, v13, v14], [dcall 28 #[ptr Wg]]⟩ (.inRegion ops27 (lin ops27 7 t #[false, false, true, false, false, false, false, false]) :: k27)) [bot]) w := by
   intro t w hF
   refine goo_lin (rs := [0, 3]) (by first | rfl | kernel_rfl) (by simp) (fun i hi t => ?_) t
   simp only [List.mem_cons, List.not_mem_nil, or_false] at hi
   rcases hi with rfl | rfl
   · refine Goo.mono (Goo.step (n := (184 + nf)) rfl fun w₁ h₁ => ?_) (by omega)
     replace hF := rl hF h₁
     refine goes_oper_k rfl rfl (by decide) (fun K hK => ?_)
     simp only [ops27, lp27, lpOf, body27, Try.f27, Option.getD_some] at hK ⊢
     go_simp
     refine hK _ _ ⟨gua_read fun e he => ?_, fun _ => ?_⟩
     · have hm := mem_listed he
       simp [go_sem] at hm
     exact s02 _ _ hF
   · refine Goo.mono (Goo.step (n := (184 + nf)) rfl fun w₁ h₁ => ?_) (by omega)
     replace hF := rl hF h₁
     refine goes_oper_k rfl rfl (by decide) (fun K hK => ?_)
     simp only [ops27, lp27, lpOf, body27, Try.f27, Option.getD_some] at hK ⊢
     go_simp
     refine hK _ _ ⟨gua_read fun e he => ?_, fun _ => ?_⟩
     · have hm := mem_listed he
       simp [go_sem] at hm
     exact s23 _ _ hF
 have s3 : ∀ t w, WkJ own Got Rd Wg e8 e4 c fv X bj n p w → Goo Try.prog false own (KR 66 Wg own Got Rd) (KD Wg own Got Rd) Stop₁ (192 + nf) (G ((baseD 27).at ⟨#[ptr Wg, ptr e8, ptr e4, ptr bj, .chan (some c), t5, .bool true, t7, v8, v9, v10, .pointer (some ⟨bj, 0, none⟩), v12, v13, v14], [dcall 28 #[ptr Wg]]⟩ (.inRegion ops27 (lin ops27 7 t #[false, false, false, true, false, false, false, false]) :: k27)) [bot]) w := by
   intro t w hF
   refine goo_lin (rs := [0, 2, 4]) (by first | rfl | kernel_rfl) (by simp) (fun i hi t => ?_) t
   simp only [List.mem_cons, List.not_mem_nil, or_false] at hi
   rcases hi with rfl | rfl | rfl
   · refine Goo.mono (Goo.step (n := (184 + nf)) rfl fun w₁ h₁ => ?_) (by omega)
     replace hF := rl hF h₁
     refine goes_oper_k rfl rfl (by decide) (fun K hK => ?_)
     simp only [ops27, lp27, lpOf, body27, Try.f27, Option.getD_some] at hK ⊢
     go_simp
     refine hK _ _ ⟨gua_read fun e he => ?_, fun _ => ?_⟩
     · have hm := mem_listed he
       simp [go_sem] at hm
     exact s03 _ _ hF
   · refine Goo.mono (Goo.step (n := (184 + nf)) rfl fun w₁ h₁ => ?_) (by omega)
     replace hF := rl hF h₁
     refine goes_oper_k rfl rfl (by decide) (fun K hK => ?_)
     have h1 := hF.f.fn
     simp only [ops27, lp27, lpOf, body27, Try.f27, Option.getD_some] at hK ⊢
     go_simp
     refine hK _ _ ⟨gua_read fun e he => ?_, fun _ => ?_⟩
     · have hm := mem_listed he
       simp [go_sem, h1] at hm
       exact ⟨_, hm, cell_lt h1, .inr (.inr (.inr hF.f.rd.2))⟩
     exact s23 _ _ hF
   · refine Goo.mono (Goo.step (n := (184 + nf)) rfl fun w₁ h₁ => ?_) (by omega)
     replace hF := rl hF h₁
     refine goes_oper_k rfl rfl (by decide) (fun K hK => ?_)
     have h1 := hF.j0
     simp only [ops27, lp27, lpOf, body27, Try.f27, Option.getD_some] at hK ⊢
     go_simp
     refine hK _ _ ⟨gua_read fun e he => ?_, fun _ => ?_⟩
     · have hm := mem_listed he
       simp [go_sem, h1] at hm
       exact ⟨_, hm, cell_lt h1, .inl (.inl hF.mine)⟩
     exact s34 _ _ hF
 have s : ∀ t w, WkJ own Got Rd Wg e8 e4 c fv X bj n p w → Goo Try.prog false own (KR 66 Wg own Got Rd) (KD Wg own Got Rd) Stop₁ (200 + nf) (G ((baseD 27).at ⟨#[ptr Wg, ptr e8, ptr e4, ptr bj, .chan (some c), t5, .bool true, t7, v8, v9, v10, v11, v12, v13, v14], [dcall 28 #[ptr Wg]]⟩ (.inRegion ops27 (lin ops27 8 t #[false, false, false, false, false, false, false, false]) :: k27)) [bot]) w := by
   intro t w hF
   refine goo_lin (rs := [0, 2, 3]) (by first | rfl | kernel_rfl) (by simp) (fun i hi t => ?_) t
   simp only [List.mem_cons, List.not_mem_nil, or_false] at hi
   rcases hi with rfl | rfl | rfl
   · refine Goo.mono (Goo.step (n := (192 + nf)) rfl fun w₁ h₁ => ?_) (by omega)
     replace hF := rl hF h₁
     refine goes_oper_k rfl rfl (by decide) (fun K hK => ?_)
     simp only [ops27, lp27, lpOf, body27, Try.f27, Option.getD_some] at hK ⊢
     go_simp
     refine hK _ _ ⟨gua_read fun e he => ?_, fun _ => ?_⟩
     · have hm := mem_listed he
       simp [go_sem] at hm
     exact s0 _ _ hF
   · refine Goo.mono (Goo.step (n := (192 + nf)) rfl fun w₁ h₁ => ?_) (by omega)
     replace hF := rl hF h₁
     refine goes_oper_k rfl rfl (by decide) (fun K hK => ?_)
     have h1 := hF.f.fn
     simp only [ops27, lp27, lpOf, body27, Try.f27, Option.getD_some] at hK ⊢
     go_simp
     refine hK _ _ ⟨gua_read fun e he => ?_, fun _ => ?_⟩
     · have hm := mem_listed he
       simp [go_sem, h1] at hm
       exact ⟨_, hm, cell_lt h1, .inr (.inr (.inr hF.f.rd.2))⟩
     exact s2 _ _ hF
   · refine Goo.mono (Goo.step (n := (192 + nf)) rfl fun w₁ h₁ => ?_) (by omega)
     replace hF := rl hF h₁
     refine goes_oper_k rfl rfl (by decide) (fun K hK => ?_)
     simp only [ops27, lp27, lpOf, body27, Try.f27, Option.getD_some] at hK ⊢
     go_simp
     refine hK _ _ ⟨gua_read fun e he => ?_, fun _ => ?_⟩
     · have hm := mem_listed he
       simp [go_sem] at hm
     exact s3 _ _ hF
 exact (s t w hF).mono (by omega)
end
section
variable {own : Nat → Prop} {Got : Cells} {Rd : Nat → Prop} {Wg e8 e4 c : Nat} {fv r : Value} {X X' : World → Prop} {Bz : Nat → Prop} {bj p : Nat} {n : Int} {w w₁ : World}
@[go_sem] theorem ev_store_ptr (P : Program) (w : World) (es : Array Event) (a : Addr) (m : Go.Mode) (x : Option Addr) : (store a (.pointer x) m).events P w es = storedEv P w es a (.pointer x) m := events_store P w es a _ m rfl
def jobV (n : Int) (p : Nat) : Value := .agg #[.int .i64 n, ptr p]
structure WkG (own : Nat → Prop) (Got : Cells) (Rd : Nat → Prop) (Wg e8 e4 c : Nat) (fv : Value) (X : World → Prop) (p : Nat) (w : World) : Prop where
 f : WkF own Got Rd Wg e8 e4 c fv X w
 gp : Got p 0
 pc : ∃ cs : Array Value, w.heap[p]? = some (.cells cs 3 (0, 0))
 p0 : ∃ v, w.cell? ⟨p, 0, none⟩ = some v
theorem WkG.rely (hX : Firm own Got Rd Wg X) (h : WkG own Got Rd Wg e8 e4 c fv X p w) (r : KR 66 Wg own Got Rd w w₁) : WkG own Got Rd Wg e8 e4 c fv X p w₁ := by
 obtain ⟨cs, hc⟩ := h.pc
 obtain ⟨cs', hc', _⟩ := r.form _ _ _ _ hc
 obtain ⟨v, hv⟩ := h.p0
 exact ⟨h.f.rely hX r, h.gp, ⟨cs', hc'⟩, ⟨v, (r.cell p 0 (cell_lt hv) (.inr (.inl h.gp))).trans hv⟩⟩
structure Lean1 (X : World → Prop) (Bz : Nat → Prop) : Prop where
 lt : ∀ w, X w → ∀ b, Bz b → b < w.heap.size
 set : ∀ w b o v, ¬ Bz b → X w → X (w.setCell ⟨b, o, none⟩ v)
structure WkB (own : Nat → Prop) (Got : Cells) (Rd : Nat → Prop) (Wg e8 e4 c : Nat) (fv : Value) (X : World → Prop) (Bz : Nat → Prop) (p bj : Nat) (w : World) : Prop where
 g : WkG own Got Rd Wg e8 e4 c fv X p w
 mine : own bj
 blk : ∃ z0 z1 : Value, w.heap[bj]? = some (.cells #[z0, z1] 70 (0, 0))
 ne : e8 ≠ bj ∧ e4 ≠ bj ∧ p ≠ bj ∧ ¬ Bz bj
theorem WkB.rely (hX : Firm own Got Rd Wg X) (h : WkB own Got Rd Wg e8 e4 c fv X Bz p bj w) (r : KR 66 Wg own Got Rd w w₁) : WkB own Got Rd Wg e8 e4 c fv X Bz p bj w₁ := by
 obtain ⟨z0, z1, hc⟩ := h.blk
 exact ⟨h.g.rely hX r, h.mine, ⟨z0, z1, (r.blk bj (Array.getElem?_eq_some_iff.1 hc).1 fun _ => .inl h.mine).trans hc⟩, h.ne⟩
theorem WkG.set (hL : Lean1 X Bz) (h : WkG own Got Rd Wg e8 e4 c fv X p w) {b o : Nat} {v : Value} {cs : Array Value} {t : TypeId} (hb : w.heap[b]? = some (.cells cs t (0, 0))) (ht : t ≠ 66) (h8 : e8 ≠ b) (h4 : e4 ≠ b) (hp : p ≠ b) (hz : ¬ Bz b) : WkG own Got Rd Wg e8 e4 c fv X p (w.setCell ⟨b, o, none⟩ v) := by
 have ne : ∀ b', b' ≠ b → (w.setCell ⟨b, o, none⟩ v).heap[b']? = w.heap[b']? := fun b' hb' => setCell_ne hb'
 obtain ⟨st, sm, hl⟩ := h.f.live
 obtain ⟨cs', hc'⟩ := h.pc
 obtain ⟨v', hv'⟩ := h.p0
 exact ⟨⟨⟨st, sm, hl.of_block (ne _ (Ne.symm (wg_typ h.f.live hb ht)))⟩, h.f.rd, (cell?_eq (ne e8 h8) 0).trans h.f.jobs, (cell?_eq (ne e4 h4) 0).trans h.f.fn, hL.set _ _ _ _ hz h.f.x⟩, h.gp, ⟨cs', (ne p hp).trans hc'⟩, v', (cell?_eq (ne p hp) 0).trans hv'⟩
theorem WkB.lay (hL : Lean1 X Bz) (h : WkB own Got Rd Wg e8 e4 c fv X Bz p bj w) : WkJ own Got Rd Wg e8 e4 c fv X bj n p ((w.setCell ⟨bj, 0, none⟩ (.int .i64 n)).setCell ⟨bj, 1, none⟩ (ptr p)) := by
 obtain ⟨z0, z1, hc⟩ := h.blk
 have h1 : (w.setCell ⟨bj, 0, none⟩ (.int .i64 n)).heap[bj]? = some (.cells #[.int .i64 n, z1] 70 (0, 0)) := by
   unfold World.setCell
   simp [Array.getElem?_modify, hc]
 have h2 : ((w.setCell ⟨bj, 0, none⟩ (.int .i64 n)).setCell ⟨bj, 1, none⟩ (ptr p)).heap[bj]? = some (.cells #[.int .i64 n, ptr p] 70 (0, 0)) := by
   generalize w.setCell ⟨bj, 0, none⟩ (.int .i64 n) = w' at h1
   unfold World.setCell
   simp [Array.getElem?_modify, h1]
 have hg := (h.g.set hL (o := 0) (v := .int .i64 n) hc (by decide) h.ne.1 h.ne.2.1 h.ne.2.2.1 h.ne.2.2.2).set hL (o := 1) (v := ptr p) h1 (by decide) h.ne.1 h.ne.2.1 h.ne.2.2.1 h.ne.2.2.2
 exact ⟨hg.f, h.mine, by simp [World.cell?, h2], by simp [World.cell?, h2], hg.gp, hg.pc, hg.p0⟩
theorem WkJ.done (np : ¬ Rd p) (h : WkJ own Got Rd Wg e8 e4 c fv X bj n p w) (hx : X' (w.setCell ⟨p, 0, none⟩ r)) : WkF own Got Rd Wg e8 e4 c fv X' (w.setCell ⟨p, 0, none⟩ r) := by
 have ne : ∀ b', b' ≠ p → (w.setCell ⟨p, 0, none⟩ r).heap[b']? = w.heap[b']? := fun b' hb' => setCell_ne hb'
 obtain ⟨st, sm, hl⟩ := h.f.live
 obtain ⟨cs, hc⟩ := h.pc
 exact ⟨⟨st, sm, hl.of_block (ne _ (Ne.symm (wg_typ h.f.live hc (by decide))))⟩, h.f.rd, (cell?_eq (ne e8 fun e => np (e ▸ h.f.rd.1)) 0).trans h.f.jobs, (cell?_eq (ne e4 fun e => np (e ▸ h.f.rd.2)) 0).trans h.f.fn, hx⟩
def CallsC (own : Nat → Prop) (Got : Cells) (Rd : Nat → Prop) (Wg e8 e4 c : Nat) (fv : Value) (X : World → Prop) (n : Int) (p : Nat) (r : Value) (Stop₁ Stop : Goroutine → World → Prop) (nf : Nat) : Prop :=
 ∀ bj w, WkJ own Got Rd Wg e8 e4 c fv X bj n p w → ∀ (a : Act) (ops : Array Oper) (i : Nat) (rest : List Nat) (k : List Item) (o : Oper) (y z : Operand) (ats : Array TypeId), ops[i]? = some o → Region.wanted o (yielded ops a.tmps) = true →
   o.op = .call { callee := .value y, args := #[z], argTypes := ats } → a.eval y = fv → a.eval z = .int .i64 n →
   ∀ m, m ≤ 200 → (∀ w', WkJ own Got Rd Wg e8 e4 c fv X bj n p w' → Goo Try.prog false own (KR 66 Wg own Got Rd) (KD Wg own Got Rd) Stop m (G ((baseD 27).at (a.put o.dst r) (.inRegion ops rest :: k)) [bot]) w') →
   Goo Try.prog false own (KR 66 Wg own Got Rd) (KD Wg own Got Rd) Stop₁ (m + nf) (G ((baseD 27).at a (.inRegion ops (i :: rest) :: k)) [bot]) w
theorem CallsP.cps {r : Value} {nf : Nat} {Stop : Goroutine → World → Prop} (hC : CallsP own Got Rd Wg fv n r X nf) : CallsC own Got Rd Wg e8 e4 c fv X n p r Stop Stop nf := by
 intro bj w hF a ops i rest k o y z ats h1 h2 h3 h4 h5 m _ hK
 refine Goo.bind KR.refl' (fun g w' h => ?_) (hC (baseD 27) a ops i rest k [bot] o y z ats w h1 h2 (by decide) h3 h4 h5 hF.f.live hF.f.x)
 obtain ⟨rfl, hl, hx', hk, hf⟩ := h
 obtain ⟨cs, hc⟩ := hF.pc
 obtain ⟨v, hv⟩ := hF.p0
 exact hK _ ⟨⟨hl, hF.f.rd, hk _ _ _ (.inr (.inr hF.f.rd.1)) hF.f.jobs, hk _ _ _ (.inr (.inr hF.f.rd.2)) hF.f.fn, hx'⟩, hF.mine, hk _ _ _ (.inl hF.mine) hF.j0, hk _ _ _ (.inl hF.mine) hF.j1, hF.gp, hf _ _ _ _ hc, v, hk _ _ _ (.inr (.inl hF.gp)) hv⟩
set_option maxRecDepth 100000 in
theorem wk_got {Stop₁ Stop : Goroutine → World → Prop} {cc : Array CommCase} {T : Array Value} {nf : Nat} (hX : Firm own Got Rd Wg X) (hX' : Firm own Got Rd Wg X') (hL : Lean1 X Bz) (np : ¬ Rd p) (hr : ∃ x, r = .int .i64 x)
   (hC : CallsC own Got Rd Wg e8 e4 c fv X n p r Stop₁ Stop nf) (hx : ∀ bj w, WkJ own Got Rd Wg e8 e4 c fv X bj n p w → X' (w.setCell ⟨p, 0, none⟩ r)) (hT : WkT Wg e8 e4 c T) (hF : WkG own Got Rd Wg e8 e4 c fv X p w)
   (hS : ∀ T w, WkT Wg e8 e4 c T → WkF own Got Rd Wg e8 e4 c fv X' w → Stop (wkAt Wg T) w) :
   Goo Try.prog false own (KR 66 Wg own Got Rd) (KD Wg own Got Rd) Stop₁ (340 + nf) ((wkAt Wg T).finishComm Try.prog cc (.recv true) 0 (jobV n p) true) w := by
 have hD : ∀ w, KD Wg own Got Rd w w #[] := fun w => Gua.idle w
 have rl : ∀ {w w₁ : World}, WkG own Got Rd Wg e8 e4 c fv X p w → KR 66 Wg own Got Rd w w₁ → WkG own Got Rd Wg e8 e4 c fv X p w₁ := fun h r => h.rely hX r
 replace hS := Hd.mk hS
 obtain ⟨hs, t0, t1, t2, t4⟩ := hT
 obtain ⟨v0, v1, v2, v3, v4, v5, v6, v7, v8, v9, v10, v11, v12, v13, v14, rfl⟩ := array15 T hs
 simp only [List.getElem?_toArray, List.getElem?_cons_zero, List.getElem?_cons_succ, Option.some.injEq] at t0 t1 t2 t4
 subst t0 t1 t2 t4
 clear hs
 simp only [wkAt, atRecv, lp27, lpOf, body27, Try.f27, Option.getD_some, jobV]
 rw [finish_recv]
 refine Goo.mono (Goo.on (KR.refl') (n := 30) (m := 300 + nf) ?_) (by omega)
 walk_nrm
 repeat ((first | ((with_reducible refine g_opG ?_); first | (refine g_unw hD rfl rfl ?_; intro _ h₁; replace hF := rl hF h₁; clear h₁; walk_nrm) | (refine Goes.step rfl ?_; intro _ h₁; replace hF := rl hF h₁; clear h₁; refine goes_oper_k rfl rfl (by k_ne) fun K hK => ?_; go_simp; refine hK _ _ ⟨g_idle hD fun e he => by have hm := mem_listed he; simp [go_sem, *] at hm, ?_⟩; clear hK K; try w_num)) | ((first | ((with_reducible refine g_c (k' := ?_) true true hD ?_ ?_); rotate_left; focus exact rfl) | with_reducible refine g_r hD rfl ?_); intro _ h₁; replace hF := rl hF h₁; clear h₁)))
 refine Goes.stop fun w₁ h₁ => ?_
 replace hF := rl hF h₁
 clear h₁
 refine Goo.mono (Goo.step (n := 290 + nf) rfl fun w₂ h₂ => ?_) (by omega)
 replace hF := rl hF h₂
 clear h₂
 refine goes_oper_k rfl rfl (by decide) (fun K hK => ?_)
 go_simp
 refine hK _ _ ⟨gua_but (S := fun _ => False) (fun _ h => h.elim) (by simp) (fun b hb _ => heap_alloc_old _ _ b hb) (fun _ _ h => h.elim) rfl rfl rfl (fun e he => ?_), fun hnew => ?_⟩
 · have hm := mem_listed he
   simp [go_sem] at hm
 clear hK K
 have hbj : own w₂.heap.size := hnew _ (Nat.le_refl _) (by simp)
 have hax : ∀ b, b < w₂.heap.size → (w₂.alloc (Obj.cells #[.int .i64 0, .pointer none] 70)).heap[b]? = w₂.heap[b]? := fun b hb => heap_alloc_old _ _ b hb
 obtain ⟨pv, hpv⟩ := hF.p0
 have hne : e8 ≠ w₂.heap.size ∧ e4 ≠ w₂.heap.size ∧ p ≠ w₂.heap.size ∧ ¬ Bz w₂.heap.size := ⟨Nat.ne_of_lt (cell_lt hF.f.jobs), Nat.ne_of_lt (cell_lt hF.f.fn), Nat.ne_of_lt (cell_lt hpv), fun hb => Nat.lt_irrefl _ (hL.lt _ hF.f.x _ hb)⟩
 replace hF : WkB own Got Rd Wg e8 e4 c fv X Bz p w₂.heap.size (w₂.alloc (.cells #[.int .i64 0, .pointer none] 70)) := ⟨hF.rely hX (rel_new (by simp) hax rfl rfl rfl), hbj, ⟨_, _, heap_alloc_new _ _⟩, hne⟩
 clear hax hnew hbj rl hne hpv pv
 generalize w₂.alloc (.cells #[.int .i64 0, .pointer none] 70) = w₃ at hF ⊢
 generalize w₂.heap.size = bj at hF ⊢
 clear w₂
 try walk_nrm
 refine Goo.mono (Goo.step (n := 280 + nf) rfl fun w₄ h₄ => ?_) (by omega)
 replace hF := hF.rely hX h₄
 clear h₄
 refine goes_oper_k rfl rfl (by decide) (fun K hK => ?_)
 obtain ⟨z0, z1, hc⟩ := hF.blk
 have h0 : w₄.cell? ⟨bj, 0, none⟩ = some z0 := by simp [World.cell?, hc]
 have h1 : w₄.cell? ⟨bj, 1, none⟩ = some z1 := by simp [World.cell?, hc]
 have hz0 := frozen_of hc 0
 have hz1 := frozen_of hc 1
 go_simp
 have hJ : WkJ own Got Rd Wg e8 e4 c fv X bj n p ((w₄.setCell ⟨bj, 0, none⟩ (.int .i64 n)).setCell ⟨bj, 1, none⟩ (ptr p)) := hF.lay hL
 have hat : ∀ b, b ≠ bj → ((w₄.setCell ⟨bj, 0, none⟩ (.int .i64 n)).setCell ⟨bj, 1, none⟩ (ptr p)).heap[b]? = w₄.heap[b]? := fun b hb => (setCell_ne hb).trans (setCell_ne hb)
 refine hK _ _ ⟨gua_but (S := (· = bj)) (fun b hb _ o => hb ▸ .inl hF.mine) (by simp [World.setCell]) (fun b _ hb => hat b hb) (fun b _ hb => ?_) rfl rfl rfl (fun e he => ?_), fun _ => ?_⟩
 · subst hb
   refine ⟨#[z0, z1], #[.int .i64 n, ptr p], 70, (0, 0), hc, ?_, rfl⟩
   unfold World.setCell
   simp [Array.getElem?_modify, hc]
 · have hm := mem_listed he
   have hlt := (Array.getElem?_eq_some_iff.1 hc).1
   have hc' : (w₄.setCell ⟨bj, 0, none⟩ (.int .i64 n)).heap[bj]? = some (.cells #[.int .i64 n, z1] 70 (0, 0)) := by
     unfold World.setCell
     simp [Array.getElem?_modify, hc]
   have h1' : (w₄.setCell ⟨bj, 0, none⟩ (.int .i64 n)).cell? ⟨bj, 1, none⟩ = some z1 := by simp [World.cell?, hc']
   have hz1' := frozen_of hc' 1
   simp [go_sem, storedEv, h0, h1', hz0, hz1'] at hm
   have hlt' : bj < ((w₄.setCell ⟨bj, 0, none⟩ (.int .i64 n)).setCell ⟨bj, 1, none⟩ (ptr p)).heap.size := by simpa [World.setCell] using hlt
   rcases hm with rfl | rfl
   · exact .inl ⟨_, true, false, rfl, fun x => (by cases x), hlt', .inr (.inl (.inl hF.mine))⟩
   · exact .inl ⟨_, true, false, rfl, fun x => (by cases x), hlt', .inr (.inl (.inl hF.mine))⟩
 clear hK K hc h0 h1 hz0 hz1 hat hF
 replace hJ : WkJ own Got Rd Wg e8 e4 c fv X bj n p _ := hJ
 generalize (w₄.setCell ⟨bj, 0, none⟩ (.int .i64 n)).setCell ⟨bj, 1, none⟩ (ptr p) = w₅ at hJ ⊢
 have hF := hJ
 clear hJ
 have rlj : ∀ {w w₁ : World}, WkJ own Got Rd Wg e8 e4 c fv X bj n p w → KR 66 Wg own Got Rd w w₁ → WkJ own Got Rd Wg e8 e4 c fv X bj n p w₁ := fun h r => h.rely hX r
 refine Goo.mono (Goo.on (KR.refl') (n := 6) (m := 240 + nf) ?_) (by omega)
 try walk_nrm
 repeat ((first | ((first | ((with_reducible refine g_c (k' := ?_) true true hD ?_ ?_); rotate_left; focus exact rfl) | with_reducible refine g_r hD rfl ?_); intro _ h₁; replace hF := rlj hF h₁; clear h₁)))
 refine Goes.stop fun w₁ h₁ => ?_
 replace hF := rlj hF h₁
 refine Goo.mono (goo_draw (n := 200 + nf) (by kernel_rfl) (fun w => Gua.draw w) fun w₂ h₂ t => ?_) (by omega)
 refine wk_draw (Stop₁ := Stop₁) (Stop := Stop) (r := r) (nf := nf) hX (fun w hF => hC bj w hF) (fun t w hF => ?_) t (rlj hF (draw_rely h₂))
 · rw [lin_zero]
   simp only [ops27, k27, lp27, lpOf, body27, Try.f27, Option.getD_some]
   obtain ⟨x, rfl⟩ := hr
   refine Goo.of_goes (n := 90) ?_
   refine Goes.step rfl fun w₁ h₁ => ?_
   replace hF := rlj hF h₁
   refine goes_oper_k rfl rfl (by decide) (fun K hK => ?_)
   obtain ⟨cs, hc⟩ := hF.pc
   obtain ⟨v₀, h0⟩ := hF.p0
   have hfz := frozen_of hc 0
   go_simp
   try (unfold stored; go_simp)
   refine hK _ _ ⟨gua_write (a := ⟨p, 0, none⟩) rfl hc (.inr hF.gp) fun e he => ?_, ?_⟩
   · have hm := mem_listed he
     simp [go_sem, storedEv, h0, hfz] at hm
     exact hm
   clear hK K hc h0 hfz cs v₀ rlj
   replace hF := hF.done np (hx _ _ hF)
   have rl : ∀ {w w₁ : World}, WkF own Got Rd Wg e8 e4 c fv X' w → KR 66 Wg own Got Rd w w₁ → WkF own Got Rd Wg e8 e4 c fv X' w₁ := fun h r => h.rely hX' r
   try walk_nrm
   repeat ((first | ((with_reducible refine g_opG ?_); first | (refine g_unw hD rfl rfl ?_; intro _ h₁; replace hF := rl hF h₁; clear h₁; walk_nrm) | (refine Goes.step rfl ?_; intro _ h₁; replace hF := rl hF h₁; clear h₁; refine goes_oper_k rfl rfl (by k_ne) fun K hK => ?_; go_simp; refine hK _ _ ⟨g_idle hD fun e he => by have hm := mem_listed he; simp [go_sem, *] at hm, ?_⟩; clear hK K; try w_num)) | ((first | ((with_reducible refine g_c (k' := ?_) false true hD ?_ ?_); rotate_left; focus exact rfl) | with_reducible refine g_r hD rfl ?_); intro _ h₁; replace hF := rl hF h₁; clear h₁)))
   (first | ((with_reducible refine g_opG ?_); first | (refine g_unw hD rfl rfl ?_; intro _ h₁; replace hF := rl hF h₁; clear h₁; walk_nrm) | (refine Goes.step rfl ?_; intro _ h₁; replace hF := rl hF h₁; clear h₁; refine goes_oper_k rfl rfl (by k_ne) fun K hK => ?_; go_simp; refine hK _ _ ⟨g_idle hD fun e he => by have hm := mem_listed he; simp [go_sem, *] at hm, ?_⟩; clear hK K; try w_num)) | ((first | ((with_reducible refine g_c (k' := ?_) true true hD ?_ ?_); rotate_left; focus exact rfl) | with_reducible refine g_r hD rfl ?_); intro _ h₁; replace hF := rl hF h₁; clear h₁))
   repeat ((first | ((first | ((with_reducible refine g_c (k' := ?_) true true hD ?_ ?_); rotate_left; focus exact rfl) | with_reducible refine g_r hD rfl ?_); intro _ h₁; replace hF := rl hF h₁; clear h₁)))
   refine Goes.stop fun w₂ h₂ => hS.out _ _ ?_ (rl hF h₂)
   exact ⟨rfl, rfl, rfl, rfl, rfl⟩
end
end Go.Proofs.Ytblpmdolclalnaa
