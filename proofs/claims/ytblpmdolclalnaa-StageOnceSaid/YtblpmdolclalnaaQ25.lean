/- The methods of sync/atomic's Int32 (functions 22, 24, 25): from their call to the atomic access, the access, and back, in any rely and guarantee that lets an idle step by; conditions: none. The counting iterator of StageOnce (function 21) as Map wants an iterator. Conditions: CntIt: its box lies in goroutine 0's memory, its counter is goroutine 0's own. The layer of .. -/
import Derived.Test.YtblpmdolclalnaaQ11
import Derived.Test.YtblpmdolclalnaaQ17
import Derived.Test.YtblpmdolclalnaaQ18
import Derived.Test.YtblpmdolclalnaaQ19
import Derived.Conc.AtomicLaws2
set_option maxHeartbeats 16000000
set_option linter.unusedSimpArgs false
set_option linter.unusedVariables false
namespace Go.Proofs.Ytblpmdolclalnaa
open Go.Conc Go.RowKit Go.Conc.Lib Go.ConcR.Gen Go.ConcN.Gen
noncomputable def body22 : Code := Try.f22.body.getD .skip
noncomputable def ops22 : Array Oper := cO (cF (cS body22))
noncomputable def fr22 (A : Addr) (d : Int) : Frame := (base 22).at ⟨#[.pointer (some A), .int .i32 d, undef, undef, .int .i32 0, .pointer (some A), .pointer (some A), .pointer (some A), .int .i32 d, undef], []⟩ (.inRegion ops22 [4, 5] :: [.code .ret])
noncomputable def fr22b (A : Addr) (d r : Int) : Frame := (base 22).at ⟨#[.pointer (some A), .int .i32 d, undef, undef, .int .i32 0, .pointer (some A), .pointer (some A), .pointer (some A), .int .i32 d, .int .i32 r], []⟩ (.inRegion ops22 [5] :: [.code .ret])
noncomputable def body24 : Code := Try.f24.body.getD .skip
noncomputable def ops24 : Array Oper := cO (cF (cS body24))
noncomputable def fr24 (A : Addr) : Frame := (base 24).at ⟨#[.pointer (some A), undef, .int .i32 0, .pointer (some A), .pointer (some A), .pointer (some A), undef], []⟩ (.inRegion ops24 [3, 4] :: [.code .ret])
noncomputable def fr24b (A : Addr) (r : Int) : Frame := (base 24).at ⟨#[.pointer (some A), undef, .int .i32 0, .pointer (some A), .pointer (some A), .pointer (some A), .int .i32 r], []⟩ (.inRegion ops24 [4] :: [.code .ret])
noncomputable def body25 : Code := Try.f25.body.getD .skip
noncomputable def ops25 : Array Oper := cO (cF (cS body25))
noncomputable def fr25 (A : Addr) (x y : Int) : Frame := (base 25).at ⟨#[.pointer (some A), .int .i32 x, .int .i32 y, undef, undef, undef, .bool false, .pointer (some A), .pointer (some A), .pointer (some A), .int .i32 x, .int .i32 y, undef], []⟩ (.inRegion ops25 [5, 6] :: [.code .ret])
noncomputable def fr25b (A : Addr) (x y : Int) (r : Bool) : Frame := (base 25).at ⟨#[.pointer (some A), .int .i32 x, .int .i32 y, undef, undef, undef, .bool false, .pointer (some A), .pointer (some A), .pointer (some A), .int .i32 x, .int .i32 y, .bool r], []⟩ (.inRegion ops25 [6] :: [.code .ret])
section
variable {main : Bool} {R : World → World → Prop} {D : World → World → Array Event → Prop} {Stop : Goroutine → World → Prop} {F : World → Prop} {w : World} {b : Frame} {a : Act} {ops : Array Oper} {i : Nat} {rest : List Nat} {k : List Item} {cs : List Frame} {op : Oper} {B y : Nat} {d v : Int}
theorem goes_bind {P : Program} (refl : ∀ a, R a a) {Stop' : Goroutine → World → Prop} {m : Nat} (hS : ∀ g w, Stop g w → Goes P main R D Stop' m g w) {n : Nat} {g : Goroutine} {w : World} (h : Goes P main R D Stop n g w) : Goes P main R D Stop' (m + n) g w := by
 have key : ∀ (g : Goroutine) (w : World), (∀ w₁, R w w₁ → Stop g w₁) → Goes P main R D Stop' m g w := fun g w h => hS g w (h w (refl w))
 induction n generalizing g w with
 | zero => exact key g w h
 | succ n ih =>
   rcases h with h | ⟨hs, h⟩
   · exact (key g w h).mono (by omega)
   · exact .inr ⟨hs, fun w₁ h₁ => goes_mono (h w₁ h₁) fun _ _ _ x => ⟨x.1, ih x.2⟩⟩
set_option maxRecDepth 100000 in
theorem to_add {p q : Operand} {ats : Array TypeId} (hD : ∀ w, D w w #[]) (hF : F w) (rl : ∀ {w w₁ : World}, F w → R w w₁ → F w₁) (ho : ops[i]? = some op) (hw : Region.wanted op (yielded ops a.tmps) = true) (hk : b.kind ≠ .early)
   (hop : op.op = .call { callee := .value (.func 22), args := #[p, q], argTypes := ats }) (hp : a.eval p = .pointer (some ⟨B, y, none⟩)) (hq : a.eval q = .int .i32 d)
   (hS : ∀ w, F w → Stop (G (fr22 ⟨B, y, none⟩ d) (b.at a (.inRegion ops (i :: rest) :: k) :: cs)) w) : Goes Try.prog main R D Stop 20 (G (b.at a (.inRegion ops (i :: rest) :: k)) cs) w := by
 (refine Goes.step rfl (fun _ h₁ => ?_); replace hF := rl hF h₁; clear h₁)
 refine goes_call ho hw hk hop Try.func22 rfl rfl ⟨by exact hD _, ?_⟩
 rw [show (#[p, q] : Array Operand).map a.eval = #[.pointer (some ⟨B, y, none⟩), .int .i32 d] by simp [hp, hq]]
 walk_nrmf Try.f22
 repeat ((first | ((first | ((with_reducible refine g_c (k' := ?_) true true hD ?_ ?_); rotate_left; focus exact rfl) | with_reducible refine g_r hD rfl ?_); intro _ h₁; replace hF := rl hF h₁; clear h₁)))
 repeat ((first | ((with_reducible refine g_opG ?_); first | (refine g_unw hD rfl rfl ?_; intro _ h₁; replace hF := rl hF h₁; clear h₁; walk_nrm) | (refine Goes.step rfl ?_; intro _ h₁; replace hF := rl hF h₁; clear h₁; refine goes_oper_k rfl rfl (by k_ne) fun K hK => ?_; go_simp; refine hK _ _ ⟨?_, ?_⟩; (focus (refine g_idle hD ?_; intro e he; have hm := mem_listed he; simp [go_sem, *] at hm; done)); clear hK K; try w_num)) | ((first | ((with_reducible refine g_c (k' := ?_) true true hD ?_ ?_); rotate_left; focus exact rfl) | with_reducible refine g_r hD rfl ?_); intro _ h₁; replace hF := rl hF h₁; clear h₁)))
 exact Goes.stop fun w₁ h₁ => hS _ (rl hF h₁)
set_option maxRecDepth 100000 in
theorem from_add {A : Addr} {r : Int} (hD : ∀ w, D w w #[]) (hF : F w) (rl : ∀ {w w₁ : World}, F w → R w w₁ → F w₁) (ho : ops[i]? = some op) {m : Nat} (hS : ∀ w, F w → Goes Try.prog main R D Stop m (G (b.at (a.put op.dst (.int .i32 r)) (.inRegion ops rest :: k)) cs) w) :
   Goes Try.prog main R D Stop (m + 12) (G (fr22b A d r) (b.at a (.inRegion ops (i :: rest) :: k) :: cs)) w := by
 simp only [fr22b, ops22, body22, cS, cF, cO, Try.f22, Option.getD_some]
 repeat ((first | ((with_reducible refine g_opG ?_); first | (refine g_unw hD rfl rfl ?_; intro _ h₁; replace hF := rl hF h₁; clear h₁; walk_nrm) | (refine Goes.step rfl ?_; intro _ h₁; replace hF := rl hF h₁; clear h₁; refine goes_oper_k rfl rfl (by k_ne) fun K hK => ?_; go_simp; refine hK _ _ ⟨?_, ?_⟩; (focus (refine g_idle hD ?_; intro e he; have hm := mem_listed he; simp [go_sem, *] at hm; done)); clear hK K; try w_num)) | ((first | ((with_reducible refine g_c (k' := ?_) true true hD ?_ ?_); rotate_left; focus exact rfl) | with_reducible refine g_r hD rfl ?_); intro _ h₁; replace hF := rl hF h₁; clear h₁)))
 (refine Goes.step rfl (fun _ h₁ => ?_); replace hF := rl hF h₁; clear h₁)
 refine goes_leave1 rfl rfl Try.func22 rfl ⟨by exact hD _, ?_⟩
 rw [ho]
 exact (hS _ hF).mono (by omega)
theorem step_add {A : Addr} (hc : w.cell? A = some (.int .i32 v)) (hz : w.frozen? A = false) : stepG Try.prog main (G (fr22 A d) cs) w = .go (G (fr22b A d (IntKind.i32.wrap (v + d))) cs) (w.setCell A (.int .i32 (IntKind.i32.wrap (v + d)))) #[⟨.cell A, false, true⟩, ⟨.cell A, true, true⟩] :=
 stepG_add_atomic (o := { dst := some 9, op := .call { callee := .value (.func 38), args := #[.tmp 7, .tmp 8], argTypes := #[83, 21] }, type := 21, pos := "type.go:94", after := #[{ on := 2, ground := .data }, { on := 3, ground := .data }], guard := none }) rfl rfl (by decide) rfl Try.func38 rfl rfl rfl .i32 rfl rfl rfl hc hz
set_option maxRecDepth 100000 in
theorem to_load {p : Operand} {ats : Array TypeId} (hD : ∀ w, D w w #[]) (hF : F w) (rl : ∀ {w w₁ : World}, F w → R w w₁ → F w₁) (ho : ops[i]? = some op) (hw : Region.wanted op (yielded ops a.tmps) = true) (hk : b.kind ≠ .early)
   (hop : op.op = .call { callee := .value (.func 24), args := #[p], argTypes := ats }) (hp : a.eval p = .pointer (some ⟨B, y, none⟩))
   (hS : ∀ w, F w → Stop (G (fr24 ⟨B, y, none⟩) (b.at a (.inRegion ops (i :: rest) :: k) :: cs)) w) : Goes Try.prog main R D Stop 20 (G (b.at a (.inRegion ops (i :: rest) :: k)) cs) w := by
 (refine Goes.step rfl (fun _ h₁ => ?_); replace hF := rl hF h₁; clear h₁)
 refine goes_call ho hw hk hop Try.func24 rfl rfl ⟨by exact hD _, ?_⟩
 rw [show (#[p] : Array Operand).map a.eval = #[.pointer (some ⟨B, y, none⟩)] by simp [hp]]
 walk_nrmf Try.f24
 repeat ((first | ((first | ((with_reducible refine g_c (k' := ?_) true true hD ?_ ?_); rotate_left; focus exact rfl) | with_reducible refine g_r hD rfl ?_); intro _ h₁; replace hF := rl hF h₁; clear h₁)))
 repeat ((first | ((with_reducible refine g_opG ?_); first | (refine g_unw hD rfl rfl ?_; intro _ h₁; replace hF := rl hF h₁; clear h₁; walk_nrm) | (refine Goes.step rfl ?_; intro _ h₁; replace hF := rl hF h₁; clear h₁; refine goes_oper_k rfl rfl (by k_ne) fun K hK => ?_; go_simp; refine hK _ _ ⟨?_, ?_⟩; (focus (refine g_idle hD ?_; intro e he; have hm := mem_listed he; simp [go_sem, *] at hm; done)); clear hK K; try w_num)) | ((first | ((with_reducible refine g_c (k' := ?_) true true hD ?_ ?_); rotate_left; focus exact rfl) | with_reducible refine g_r hD rfl ?_); intro _ h₁; replace hF := rl hF h₁; clear h₁)))
 exact Goes.stop fun w₁ h₁ => hS _ (rl hF h₁)
set_option maxRecDepth 100000 in
theorem from_load {A : Addr} {r : Int} (hD : ∀ w, D w w #[]) (hF : F w) (rl : ∀ {w w₁ : World}, F w → R w w₁ → F w₁) (ho : ops[i]? = some op) {m : Nat} (hS : ∀ w, F w → Goes Try.prog main R D Stop m (G (b.at (a.put op.dst (.int .i32 r)) (.inRegion ops rest :: k)) cs) w) :
   Goes Try.prog main R D Stop (m + 12) (G (fr24b A r) (b.at a (.inRegion ops (i :: rest) :: k) :: cs)) w := by
 simp only [fr24b, ops24, body24, cS, cF, cO, Try.f24, Option.getD_some]
 repeat ((first | ((with_reducible refine g_opG ?_); first | (refine g_unw hD rfl rfl ?_; intro _ h₁; replace hF := rl hF h₁; clear h₁; walk_nrm) | (refine Goes.step rfl ?_; intro _ h₁; replace hF := rl hF h₁; clear h₁; refine goes_oper_k rfl rfl (by k_ne) fun K hK => ?_; go_simp; refine hK _ _ ⟨?_, ?_⟩; (focus (refine g_idle hD ?_; intro e he; have hm := mem_listed he; simp [go_sem, *] at hm; done)); clear hK K; try w_num)) | ((first | ((with_reducible refine g_c (k' := ?_) true true hD ?_ ?_); rotate_left; focus exact rfl) | with_reducible refine g_r hD rfl ?_); intro _ h₁; replace hF := rl hF h₁; clear h₁)))
 (refine Goes.step rfl (fun _ h₁ => ?_); replace hF := rl hF h₁; clear h₁)
 refine goes_leave1 rfl rfl Try.func24 rfl ⟨by exact hD _, ?_⟩
 rw [ho]
 exact (hS _ hF).mono (by omega)
theorem step_load {A : Addr} (hc : w.cell? A = some (.int .i32 v)) : stepG Try.prog main (G (fr24 A) cs) w = .go (G (fr24b A v) cs) w #[⟨.cell A, false, true⟩] :=
 stepG_load_atomic (o := { dst := some 6, op := .call { callee := .value (.func 39), args := #[.tmp 5], argTypes := #[83] }, type := 21, pos := "type.go:80", after := #[{ on := 2, ground := .data }], guard := none }) rfl rfl (by decide) rfl Try.func39 rfl rfl rfl .i32 rfl rfl hc
set_option maxRecDepth 100000 in
theorem to_cas {p q z : Operand} {ats : Array TypeId} {d₁ d₂ : Int} (hD : ∀ w, D w w #[]) (hF : F w) (rl : ∀ {w w₁ : World}, F w → R w w₁ → F w₁) (ho : ops[i]? = some op) (hw : Region.wanted op (yielded ops a.tmps) = true) (hk : b.kind ≠ .early)
   (hop : op.op = .call { callee := .value (.func 25), args := #[p, q, z], argTypes := ats }) (hp : a.eval p = .pointer (some ⟨B, y, none⟩)) (hq : a.eval q = .int .i32 d₁) (hz : a.eval z = .int .i32 d₂)
   (hS : ∀ w, F w → Stop (G (fr25 ⟨B, y, none⟩ d₁ d₂) (b.at a (.inRegion ops (i :: rest) :: k) :: cs)) w) : Goes Try.prog main R D Stop 20 (G (b.at a (.inRegion ops (i :: rest) :: k)) cs) w := by
 (refine Goes.step rfl (fun _ h₁ => ?_); replace hF := rl hF h₁; clear h₁)
 refine goes_call ho hw hk hop Try.func25 rfl rfl ⟨by exact hD _, ?_⟩
 rw [show (#[p, q, z] : Array Operand).map a.eval = #[.pointer (some ⟨B, y, none⟩), .int .i32 d₁, .int .i32 d₂] by simp [hp, hq, hz]]
 walk_nrmf Try.f25
 repeat ((first | ((first | ((with_reducible refine g_c (k' := ?_) true true hD ?_ ?_); rotate_left; focus exact rfl) | with_reducible refine g_r hD rfl ?_); intro _ h₁; replace hF := rl hF h₁; clear h₁)))
 repeat ((first | ((with_reducible refine g_opG ?_); first | (refine g_unw hD rfl rfl ?_; intro _ h₁; replace hF := rl hF h₁; clear h₁; walk_nrm) | (refine Goes.step rfl ?_; intro _ h₁; replace hF := rl hF h₁; clear h₁; refine goes_oper_k rfl rfl (by k_ne) fun K hK => ?_; go_simp; refine hK _ _ ⟨?_, ?_⟩; (focus (refine g_idle hD ?_; intro e he; have hm := mem_listed he; simp [go_sem, *] at hm; done)); clear hK K; try w_num)) | ((first | ((with_reducible refine g_c (k' := ?_) true true hD ?_ ?_); rotate_left; focus exact rfl) | with_reducible refine g_r hD rfl ?_); intro _ h₁; replace hF := rl hF h₁; clear h₁)))
 exact Goes.stop fun w₁ h₁ => hS _ (rl hF h₁)
set_option maxRecDepth 100000 in
theorem from_cas {A : Addr} {d₁ d₂ : Int} {r : Bool} (hD : ∀ w, D w w #[]) (hF : F w) (rl : ∀ {w w₁ : World}, F w → R w w₁ → F w₁) (ho : ops[i]? = some op) {m : Nat} (hS : ∀ w, F w → Goes Try.prog main R D Stop m (G (b.at (a.put op.dst (.bool r)) (.inRegion ops rest :: k)) cs) w) :
   Goes Try.prog main R D Stop (m + 12) (G (fr25b A d₁ d₂ r) (b.at a (.inRegion ops (i :: rest) :: k) :: cs)) w := by
 simp only [fr25b, ops25, body25, cS, cF, cO, Try.f25, Option.getD_some]
 repeat ((first | ((with_reducible refine g_opG ?_); first | (refine g_unw hD rfl rfl ?_; intro _ h₁; replace hF := rl hF h₁; clear h₁; walk_nrm) | (refine Goes.step rfl ?_; intro _ h₁; replace hF := rl hF h₁; clear h₁; refine goes_oper_k rfl rfl (by k_ne) fun K hK => ?_; go_simp; refine hK _ _ ⟨?_, ?_⟩; (focus (refine g_idle hD ?_; intro e he; have hm := mem_listed he; simp [go_sem, *] at hm; done)); clear hK K; try w_num)) | ((first | ((with_reducible refine g_c (k' := ?_) true true hD ?_ ?_); rotate_left; focus exact rfl) | with_reducible refine g_r hD rfl ?_); intro _ h₁; replace hF := rl hF h₁; clear h₁)))
 (refine Goes.step rfl (fun _ h₁ => ?_); replace hF := rl hF h₁; clear h₁)
 refine goes_leave1 rfl rfl Try.func25 rfl ⟨by exact hD _, ?_⟩
 rw [ho]
 exact (hS _ hF).mono (by omega)
theorem step_hit {A : Addr} {d₂ : Int} (hc : w.cell? A = some (.int .i32 v)) (hz : w.frozen? A = false) : stepG Try.prog main (G (fr25 A v d₂) cs) w = .go (G (fr25b A v d₂ true) cs) (w.setCell A (.int .i32 d₂)) #[⟨.cell A, false, true⟩, ⟨.cell A, true, true⟩] :=
 stepG_cas_hit (o := { dst := some 12, op := .call { callee := .value (.func 40), args := #[.tmp 9, .tmp 10, .tmp 11], argTypes := #[83, 21, 21] }, type := 4, pos := "type.go:90", after := #[{ on := 2, ground := .data }, { on := 3, ground := .data }, { on := 4, ground := .data }], guard := none }) rfl rfl (by decide) rfl Try.func40 rfl rfl rfl .i32 rfl rfl rfl rfl hc hz
theorem step_miss {A : Addr} {d₁ d₂ : Int} (hc : w.cell? A = some (.int .i32 v)) (hz : w.frozen? A = false) (hne : ¬ v = d₁) : stepG Try.prog main (G (fr25 A d₁ d₂) cs) w = .go (G (fr25b A d₁ d₂ false) cs) w #[⟨.cell A, false, true⟩] :=
 stepG_cas_miss (o := { dst := some 12, op := .call { callee := .value (.func 40), args := #[.tmp 9, .tmp 10, .tmp 11], argTypes := #[83, 21, 21] }, type := 4, pos := "type.go:90", after := #[{ on := 2, ground := .data }, { on := 3, ground := .data }, { on := 4, ground := .data }], guard := none }) rfl rfl (by decide) rfl Try.func40 rfl rfl rfl .i32 rfl rfl rfl rfl hc hz hne
end
end Go.Proofs.Ytblpmdolclalnaa
namespace Go.Proofs.Ytblpmdolclalnaa
open Go.Conc Go.RowKit Go.Conc.Lib Go.ConcR.Gen Go.ConcN.Gen
open Go.ConcR (WgAt KK stA smA rd wr mk DC0)
noncomputable def body21 : Code := Try.f21.body.getD .skip
noncomputable def lp21 : Code := cI (cI (cS body21))
noncomputable def bd21 : Code := cI (cF (cS (cS lp21)))
noncomputable def kl21 : List Item := [.inBlock 1, .code (cS (cS (cS lp21))), .inLoop lp21, .inBlock 0]
noncomputable def ops21y : Array Oper := cO (cF (cS (cS bd21)))
noncomputable def k21 : List Item := .code (cS (cS (cS bd21))) :: kl21
def cntV (kn vb : Nat) : Value := .func (.func 21) #[] #[ptr kn, ptr vb]
structure CtU (kn vb : Nat) (yv : Value) (n i : Nat) (U : Array Value) : Prop where
 size : U.size = 16
 t0 : U[0]? = some yv
 t1 : U[1]? = some (ptr kn)
 t2 : U[2]? = some (ptr vb)
 t6 : U[6]? = some (.int .i64 n)
 t7 : U[7]? = some (.int .i64 i)
structure CtC (kn vb : Nat) (yv : Value) (n i : Nat) (U : Array Value) : Prop where
 u : CtU kn vb yv n i U
 t11 : U[11]? = some yv
 t12 : U[12]? = some (.int .i64 i)
theorem array16 (T : Array Value) (h : T.size = 16) : ∃ v0 v1 v2 v3 v4 v5 v6 v7 v8 v9 v10 v11 v12 v13 v14 v15, T = #[v0, v1, v2, v3, v4, v5, v6, v7, v8, v9, v10, v11, v12, v13, v14, v15] := by
 obtain ⟨l⟩ := T
 match l, h with
 | [v0, v1, v2, v3, v4, v5, v6, v7, v8, v9, v10, v11, v12, v13, v14, v15], _ => exact ⟨v0, v1, v2, v3, v4, v5, v6, v7, v8, v9, v10, v11, v12, v13, v14, v15, rfl⟩
def cntIt (kn vb n : Nat) : Iter where
 vb := some vb
 ent l fr := fr = (base 21).at ⟨#[yieldV l, ptr kn, ptr vb, undef, undef, undef, undef, undef, undef, undef, undef, undef, undef, undef, undef, undef], []⟩ [.code body21]
 loop l i fr := ∃ U, CtU kn vb (yieldV l) n i U ∧ fr = (base 21).at ⟨U, []⟩ [.code lp21, .inLoop lp21, .inBlock 0]
 yld l i x b a ops j rest k := ∃ U, CtC kn vb (yieldV l) n i U ∧ i < n ∧ x = i ∧ b = base 21 ∧ a = ⟨U, []⟩ ∧ ops = ops21y ∧ j = 2 ∧ rest = [3] ∧ k = k21
theorem res21 {a : Act} {t : Tmp} {kn vb : Nat} (hy : a.eval (.tmp t) = cntV kn vb) (l : Nat) (w : World) :
   (resolve a.eval { callee := .value (.tmp t), args := #[.const (.func (.yield l) #[] #[])], argTypes := #[] } 0).run Try.prog w = .ok { target := .fn (.func 21) #[ptr kn, ptr vb], args := #[yieldV l] } w ∧
   (resolve a.eval { callee := .value (.tmp t), args := #[.const (.func (.yield l) #[] #[])], argTypes := #[] } 0).events Try.prog w #[] = #[] := by
 have ec : ∀ v, a.eval (.const v) = v := fun _ => rfl
 constructor
 · simp [resolve, Deferred.ofValue, hy, cntV, yieldV, ec]
 · simp [resolve, Deferred.ofValue, hy, cntV, ec]
theorem inv21 (kn vb l : Nat) (w : World) : (invoke (.fn (.func 21) #[ptr kn, ptr vb]) #[yieldV l]).run Try.prog w = .ok (.enter 21 #[yieldV l, ptr kn, ptr vb]) w ∧ (invoke (.fn (.func 21) #[ptr kn, ptr vb]) #[yieldV l]).events Try.prog w #[] = #[] := by
 constructor
 · simp [invoke, callFunc, Try.func21, Try.f21]
 · simp [invoke, callFunc, Try.func21, Try.f21]
theorem goes_range21 {main : Bool} {b : Frame} {a : Act} {k : List Item} {cs : List Frame} {w : World} {K : Goroutine → World → Array Event → Prop} {ps : Array Tmp} {assign body : Code} {t : Tmp} {kn vb : Nat} (hy : a.eval (.tmp t) = cntV kn vb)
   (h : K (G ((base 21).at ⟨#[yieldV (w.heap.size + 1), ptr kn, ptr vb, undef, undef, undef, undef, undef, undef, undef, undef, undef, undef, undef, undef, undef], []⟩ [.code body21]) (b.at ⟨a.tmps, { target := .collected w.heap.size, args := #[] } :: a.defers⟩ (.inRangeFunc (w.heap.size + 1) :: k) :: cs))
     ((w.alloc (.deferred (some []))).alloc (.loop { state := .ready, pending := none, fn := b.fn, tmps := a.tmps, params := ps, assign := assign, body := body, defers := w.heap.size })) #[]) :
   (stepG Try.prog main (G (b.at a (.code (.rangeFunc (.tmp t) ps assign body) :: k)) cs) w).goes K := by
 rw [stepG_rangeFunc (l := w.heap.size + 1) (run_enterLoop_outer _ _ _ _ _) (res21 hy _ _).1 (inv21 kn vb _ _).1 (res21 hy _ _).2 (inv21 kn vb _ _).2, enter_at _ Try.func21 rfl]
 exact h
section
variable {own : Nat → Prop} {Given : Cells} {Fz : Nat → Prop} {Wg kn vb n i : Nat} {yv : Value} {F : World → Prop} {w : World} {cs : List Frame} {Stop : Goroutine → World → Prop}
theorem gua_atom {said : Bool} {Writ Read : Cells} {a : Addr} {v : Value} {c : Array Value} {e : TypeId} {f : Nat × Nat} {es : Array Event} (ha : a.spot = none) (hc : w.heap[a.block]? = some (.cells c e f)) (hw : Writ a.block a.off) (hne : a.block ≠ Wg) (h : ∀ ev ∈ es, ∃ wr, ev = ⟨.cell a, wr, true⟩) :
   Gua said Wg Writ Read w (w.setCell a v) es := by
 have g0 := gua_write (said := said) (Wg := Wg) (Writ := Writ) (Read := Read) (v := v) (es := #[]) ha hc hw (fun e he => by simp at he)
 refine ⟨g0.size, g0.blk, g0.cell, g0.form, g0.os, g0.out, g0.tape, g0.kind, fun ev hev => ?_⟩
 obtain ⟨wr, rfl⟩ := h ev hev
 exact .inl ⟨a, wr, true, rfl, fun _ => hne, Nat.lt_of_lt_of_le (Array.getElem?_eq_some_iff.1 hc).1 g0.size, .inr (.inl hw)⟩
set_option maxRecDepth 100000 in
theorem ct_first (hF : F w) (rl : ∀ {w w₁ : World}, F w → MR 66 Wg own Given w w₁ → F w₁) (hI : ∀ w, F w → w.cell? ⟨kn, 0, none⟩ = some (.int .u8 n) ∧ own kn ∧ ¬ Given kn 0) (hn : n < 256)
   (hS : ∀ U w, F w → CtU kn vb yv n 0 U → Stop (G ((base 21).at ⟨U, []⟩ [.code lp21, .inLoop lp21, .inBlock 0]) cs) w) :
   Goes Try.prog true (MR 66 Wg own Given) (MD Wg own Given Fz) Stop 20 (G ((base 21).at ⟨#[yv, ptr kn, ptr vb, undef, undef, undef, undef, undef, undef, undef, undef, undef, undef, undef, undef, undef], []⟩ [.code body21]) cs) w := by
 have hD : ∀ w, MD Wg own Given Fz w w #[] := fun w => Gua.idle w
 have hcv : IntKind.i64.wrap (n : Int) = n := by rw [IntKind.wrap_i64]; omega
 replace hS := Hd.mk hS
 simp only [lp21, bd21, kl21, ops21y, k21, cS, cF, cI, cO, body21, Try.f21, Option.getD_some] at hS ⊢
 repeat ((first | ((with_reducible refine g_opG ?_); first | (refine g_unw hD rfl rfl ?_; intro _ h₁; replace hF := rl hF h₁; clear h₁; walk_nrm) | (refine Goes.step rfl ?_; intro _ h₁; replace hF := rl hF h₁; clear h₁; refine goes_oper_k rfl rfl (by k_ne) fun K hK => ?_; go_simp; refine hK _ _ ⟨?_, ?_⟩; (focus (refine g_idle hD ?_; intro e he; have hm := mem_listed he; simp [go_sem, *] at hm; done)); clear hK K; try w_num)) | ((first | ((with_reducible refine g_c (k' := ?_) true true hD ?_ ?_); rotate_left; focus exact rfl) | with_reducible refine g_r hD rfl ?_); intro _ h₁; replace hF := rl hF h₁; clear h₁)))
 (refine Goes.step rfl (fun _ h₁ => ?_); replace hF := rl hF h₁; clear h₁)
 refine goes_oper_k rfl rfl (by decide) (fun K hK => ?_)
 have h1 := (hI _ hF).1
 have h2 := (hI _ hF).2
 go_simp
 refine hK _ _ ⟨gua_read fun e he => ?_, ?_⟩
 · have hm := mem_listed he
   simp [go_sem, h1] at hm
   exact ⟨_, hm, cell_lt h1, .inr h2⟩
 clear hK K h1 h2
 try walk_nrm
 repeat ((first | ((first | ((with_reducible refine g_c (k' := ?_) true true hD ?_ ?_); rotate_left; focus exact rfl) | with_reducible refine g_r hD rfl ?_); intro _ h₁; replace hF := rl hF h₁; clear h₁)))
 repeat ((refine Goes.step rfl (fun _ h₁ => ?_); replace hF := rl hF h₁; clear h₁; refine goes_oper_k rfl rfl (by k_ne) (fun K hK => ?_); go_simp; refine hK _ _ ⟨?_, ?_⟩; (focus (refine g_idle hD ?_; intro e he; have hm := mem_listed he; simp [go_sem, *] at hm; done)); clear hK K; try w_num))
 repeat ((first | ((with_reducible refine g_opG ?_); first | (refine g_unw hD rfl rfl ?_; intro _ h₁; replace hF := rl hF h₁; clear h₁; walk_nrm) | (refine Goes.step rfl ?_; intro _ h₁; replace hF := rl hF h₁; clear h₁; refine goes_oper_k rfl rfl (by k_ne) fun K hK => ?_; go_simp; refine hK _ _ ⟨?_, ?_⟩; (focus (refine g_idle hD ?_; intro e he; have hm := mem_listed he; simp [go_sem, *] at hm; done)); clear hK K; try w_num)) | ((first | ((with_reducible refine g_c (k' := ?_) true false hD ?_ ?_); rotate_left; focus exact rfl) | with_reducible refine g_r hD rfl ?_); intro _ h₁; replace hF := rl hF h₁; clear h₁)))
 (first | ((with_reducible refine g_opG ?_); first | (refine g_unw hD rfl rfl ?_; intro _ h₁; replace hF := rl hF h₁; clear h₁; walk_nrm) | (refine Goes.step rfl ?_; intro _ h₁; replace hF := rl hF h₁; clear h₁; refine goes_oper_k rfl rfl (by k_ne) fun K hK => ?_; go_simp; refine hK _ _ ⟨?_, ?_⟩; (focus (refine g_idle hD ?_; intro e he; have hm := mem_listed he; simp [go_sem, *] at hm; done)); clear hK K; try w_num)) | ((first | ((with_reducible refine g_c (k' := ?_) true true hD ?_ ?_); rotate_left; focus exact rfl) | with_reducible refine g_r hD rfl ?_); intro _ h₁; replace hF := rl hF h₁; clear h₁))
 exact Goes.stop fun w₁ h₁ => hS.out _ _ (rl hF h₁) ⟨rfl, rfl, rfl, rfl, rfl, rfl⟩
set_option maxRecDepth 100000 in
theorem ct_more {U : Array Value} {F' : World → Prop} (hU : CtU kn vb yv n i U) (hi : i < n) (hn : n < 256) (hF : F w) (rl : ∀ {w w₁ : World}, F w → MR 66 Wg own Given w w₁ → F w₁) (rl' : ∀ {w w₁ : World}, F' w → MR 66 Wg own Given w w₁ → F' w₁) (hV : ∀ w, F w → w.heap[vb]? = some (cnt32 i)) (hw : writM own Given Fz vb 0) (hne : vb ≠ Wg)
   (hT : ∀ w, F w → F' (w.setCell ⟨vb, 0, none⟩ (.int .i32 (i + 1 : Nat))))
   (hS : ∀ U w, F' w → CtC kn vb yv n i U → Stop (G ((base 21).at ⟨U, []⟩ (.inRegion ops21y [2, 3] :: k21)) cs) w) :
   Goes Try.prog true (MR 66 Wg own Given) (MD Wg own Given Fz) Stop 120 (G ((base 21).at ⟨U, []⟩ [.code lp21, .inLoop lp21, .inBlock 0]) cs) w := by
 have hD : ∀ w, MD Wg own Given Fz w w #[] := fun w => Gua.idle w
 obtain ⟨hs, t0, t1, t2, t6, t7⟩ := hU
 obtain ⟨v0, v1, v2, v3, v4, v5, v6, v7, v8, v9, v10, v11, v12, v13, v14, v15, rfl⟩ := array16 U hs
 simp only [List.getElem?_toArray, List.getElem?_cons_zero, List.getElem?_cons_succ, Option.some.injEq] at t0 t1 t2 t6 t7
 subst t0 t1 t2 t6 t7
 clear hs
 have hlt : decide ((i : Int) < (n : Int)) = true := decide_eq_true (by omega)
 replace hS := Hd.mk hS
 simp only [lp21, bd21, kl21, ops21y, k21, cS, cF, cI, cO, body21, Try.f21, Option.getD_some] at hS ⊢
 refine Goes.mono (n := 100) ?_ (by decide)
 repeat ((first | ((with_reducible refine g_opG ?_); first | (refine g_unw hD rfl rfl ?_; intro _ h₁; replace hF := rl hF h₁; clear h₁; walk_nrm) | (refine Goes.step rfl ?_; intro _ h₁; replace hF := rl hF h₁; clear h₁; refine goes_oper_k rfl rfl (by k_ne) fun K hK => ?_; go_simp; refine hK _ _ ⟨?_, ?_⟩; (focus (refine g_idle hD ?_; intro e he; have hm := mem_listed he; simp [go_sem, *] at hm; done)); clear hK K; try w_num)) | ((first | ((with_reducible refine g_c (k' := ?_) true true hD ?_ ?_); rotate_left; focus exact rfl) | with_reducible refine g_r hD rfl ?_); intro _ h₁; replace hF := rl hF h₁; clear h₁)))
 refine Goes.mono (goes_bind (Stop := fun g w => Goes Try.prog true (MR 66 Wg own Given) (MD Wg own Given Fz) Stop 40 g w) (m := 40) (n := 20) (MR.refl' _) (fun _ _ h => h) (to_add (B := vb) (y := 0) (d := 1) hD hF rl rfl rfl (by decide) rfl rfl rfl fun w hF => ?_)) (by omega)
 clear hlt
 refine Goes.step rfl fun w₁ h₁ => ?_
 replace hF := rl hF h₁
 clear h₁
 have hc := hV _ hF
 have hcell : w₁.cell? ⟨vb, 0, none⟩ = some (.int .i32 (i : Nat)) := by unfold World.cell?; rw [hc]; rfl
 have hwr : IntKind.i32.wrap ((i : Int) + 1) = ((i + 1 : Nat) : Int) := by rw [IntKind.wrap_i32]; omega
 rw [step_add hcell (frozen_of hc 0), hwr]
 simp only [goes_go]
 refine ⟨gua_atom rfl hc hw hne fun ev hev => ?_, ?_⟩
 · simp only [List.mem_toArray, List.mem_cons, List.not_mem_nil, or_false] at hev
   rcases hev with rfl | rfl <;> exact ⟨_, rfl⟩
 replace hF := hT _ hF
 clear hT hV hcell hc hwr rl
 refine (from_add hD hF rl' rfl (m := 20) fun w hF => ?_).mono (by omega)
 walk_nrm
 repeat ((first | ((with_reducible refine g_opG ?_); first | (refine g_unw hD rfl rfl ?_; intro _ h₁; replace hF := rl' hF h₁; clear h₁; walk_nrm) | (refine Goes.step rfl ?_; intro _ h₁; replace hF := rl' hF h₁; clear h₁; refine goes_oper_k rfl rfl (by k_ne) fun K hK => ?_; go_simp; refine hK _ _ ⟨?_, ?_⟩; (focus (refine g_idle hD ?_; intro e he; have hm := mem_listed he; simp [go_sem, *] at hm; done)); clear hK K; try w_num)) | ((first | ((with_reducible refine g_c (k' := ?_) true true hD ?_ ?_); rotate_left; focus exact rfl) | with_reducible refine g_r hD rfl ?_); intro _ h₁; replace hF := rl' hF h₁; clear h₁)))
 exact Goes.stop fun w₁ h₁ => hS.out _ _ (rl' hF h₁) ⟨⟨rfl, rfl, rfl, rfl, rfl, rfl⟩, rfl, rfl⟩
set_option maxRecDepth 100000 in
theorem ct_done {U : Array Value} {c : Frame} (hU : CtU kn vb yv n n U) (hF : F w) (rl : ∀ {w w₁ : World}, F w → MR 66 Wg own Given w w₁ → F w₁) (hS : ∀ w, F w → Stop (G (c.finish (.tuple #[])) cs) w) :
   Goes Try.prog true (MR 66 Wg own Given) (MD Wg own Given Fz) Stop 20 (G ((base 21).at ⟨U, []⟩ [.code lp21, .inLoop lp21, .inBlock 0]) (c :: cs)) w := by
 generalize hin : n = i' at hU
 have hlt : decide ((n : Int) < (n : Int)) = false := decide_eq_false (by omega)
 subst hin
 have hD : ∀ w, MD Wg own Given Fz w w #[] := fun w => Gua.idle w
 obtain ⟨hs, t0, t1, t2, t6, t7⟩ := hU
 obtain ⟨v0, v1, v2, v3, v4, v5, v6, v7, v8, v9, v10, v11, v12, v13, v14, v15, rfl⟩ := array16 U hs
 simp only [List.getElem?_toArray, List.getElem?_cons_zero, List.getElem?_cons_succ, Option.some.injEq] at t0 t1 t2 t6 t7
 subst t0 t1 t2 t6 t7
 clear hs
 replace hS := Hd.mk hS
 simp only [lp21, bd21, kl21, ops21y, k21, cS, cF, cI, cO, body21, Try.f21, Option.getD_some]
 repeat ((first | ((with_reducible refine g_opG ?_); first | (refine g_unw hD rfl rfl ?_; intro _ h₁; replace hF := rl hF h₁; clear h₁; walk_nrm) | (refine Goes.step rfl ?_; intro _ h₁; replace hF := rl hF h₁; clear h₁; refine goes_oper_k rfl rfl (by k_ne) fun K hK => ?_; go_simp; refine hK _ _ ⟨?_, ?_⟩; (focus (refine g_idle hD ?_; intro e he; have hm := mem_listed he; simp [go_sem, *] at hm; done)); clear hK K; try w_num)) | ((first | ((with_reducible refine g_c (k' := ?_) true true hD ?_ ?_); rotate_left; focus exact rfl) | with_reducible refine g_r hD rfl ?_); intro _ h₁; replace hF := rl hF h₁; clear h₁)))
 refine g_ctl hD rfl (fun w => stepG_leave (v := .tuple #[]) rfl rfl Try.func21 (results_none rfl _ _ _) (events_results_none rfl _ _)) (fun _ h₁ => ?_)
 replace hF := rl hF h₁
 clear h₁
 exact Goes.stop fun w₁ h₁ => hS.out _ (rl hF h₁)
set_option maxRecDepth 100000 in
theorem ct_next {U : Array Value} (hU : CtU kn vb yv n i U) (hi : i < n) (hn : n < 256) (hF : F w) (rl : ∀ {w w₁ : World}, F w → MR 66 Wg own Given w w₁ → F w₁)
   (hS : ∀ U w, F w → CtU kn vb yv n (i + 1) U → Stop (G ((base 21).at ⟨U, []⟩ [.code lp21, .inLoop lp21, .inBlock 0]) cs) w) :
   Goes Try.prog true (MR 66 Wg own Given) (MD Wg own Given Fz) Stop 20 (G ((base 21).at ⟨U.setIfInBounds 13 (.bool true), []⟩ (.inRegion ops21y [3] :: k21)) cs) w := by
 have hD : ∀ w, MD Wg own Given Fz w w #[] := fun w => Gua.idle w
 obtain ⟨hs, t0, t1, t2, t6, t7⟩ := hU
 obtain ⟨v0, v1, v2, v3, v4, v5, v6, v7, v8, v9, v10, v11, v12, v13, v14, v15, rfl⟩ := array16 U hs
 simp only [List.getElem?_toArray, List.getElem?_cons_zero, List.getElem?_cons_succ, Option.some.injEq] at t0 t1 t2 t6 t7
 subst t0 t1 t2 t6 t7
 clear hs
 have hadd : IntKind.i64.wrap ((i : Int) + 1) = ((i + 1 : Nat) : Int) := by rw [IntKind.wrap_i64]; omega
 replace hS := Hd.mk hS
 simp only [lp21, bd21, kl21, ops21y, k21, cS, cF, cI, cO, body21, Try.f21, Option.getD_some] at hS ⊢
 try walk_nrm
 repeat ((first | ((with_reducible refine g_opG ?_); first | (refine g_unw hD rfl rfl ?_; intro _ h₁; replace hF := rl hF h₁; clear h₁; walk_nrm) | (refine Goes.step rfl ?_; intro _ h₁; replace hF := rl hF h₁; clear h₁; refine goes_oper_k rfl rfl (by k_ne) fun K hK => ?_; go_simp; refine hK _ _ ⟨?_, ?_⟩; (focus (refine g_idle hD ?_; intro e he; have hm := mem_listed he; simp [go_sem, *] at hm; done)); clear hK K; try w_num)) | ((first | ((with_reducible refine g_c (k' := ?_) false true hD ?_ ?_); rotate_left; focus exact rfl) | with_reducible refine g_r hD rfl ?_); intro _ h₁; replace hF := rl hF h₁; clear h₁)))
 (first | ((with_reducible refine g_opG ?_); first | (refine g_unw hD rfl rfl ?_; intro _ h₁; replace hF := rl hF h₁; clear h₁; walk_nrm) | (refine Goes.step rfl ?_; intro _ h₁; replace hF := rl hF h₁; clear h₁; refine goes_oper_k rfl rfl (by k_ne) fun K hK => ?_; go_simp; refine hK _ _ ⟨?_, ?_⟩; (focus (refine g_idle hD ?_; intro e he; have hm := mem_listed he; simp [go_sem, *] at hm; done)); clear hK K; try w_num)) | ((first | ((with_reducible refine g_c (k' := ?_) true true hD ?_ ?_); rotate_left; focus exact rfl) | with_reducible refine g_r hD rfl ?_); intro _ h₁; replace hF := rl hF h₁; clear h₁))
 exact Goes.stop fun w₁ h₁ => hS.out _ _ (rl hF h₁) ⟨rfl, rfl, rfl, rfl, rfl, rfl⟩
end
structure CntIt (m : MpM) (kn vb n : Nat) : Prop where
 it : m.it = cntIt kn vb n
 fv : m.inV = cntV kn vb
 low : kn < m.n0 ∧ ¬ m.Off kn
 box : m.w0.cell? ⟨kn, 0, none⟩ = some (.int .u8 n)
 small : n < 256
 xs : m.xs.length = n ∧ ∀ (i : Nat) (x : Int), m.xs[i]? = some (.int .i64 x) → x = i
 vb : vb < m.n0 ∧ ¬ m.Gx vb ∧ ¬ m.q.Sx vb
theorem cntIt_ok {m : MpM} {kn vb n : Nat} (h : CntIt m kn vb n) : IterOK m where
 vb b hb := by rw [h.it] at hb; cases hb; exact h.vb
 range ha hK := goes_range21 (ha.trans h.fv) (hK _ (by rw [h.it]; rfl))
 first hF rl hG he hS := by
   rw [h.it] at he hS
   have he' : _ = _ := he
   rw [he']
   exact ct_first hF rl (fun w hw => (hG w hw).cell _ _ _ h.low.1 h.low.2 h.box) h.small fun U w hw hU => hS _ w hw ⟨U, hU, rfl⟩
 more := by
   intro own Given Fz Wg l i x F Stop fr cs w hF hV rl hG hT hnf hne hl hv hS
   have hx := h.xs.2 _ _ hv
   have hi : i < n := h.xs.1 ▸ (List.getElem?_eq_some_iff.1 hv).1
   have hvb : m.it.vb = some vb := by rw [h.it]; rfl
   rw [h.it] at hl hS hV
   obtain ⟨U, hU, rfl⟩ := hl
   have hV' : w.heap[vb]? = some (cnt32 i) := hV vb rfl
   have keep : ∀ {w w₁ : World} {k : Nat}, F w → w.heap[vb]? = some (cnt32 k) → MR 66 Wg own Given w w₁ → w₁.heap[vb]? = some (cnt32 k) := fun {w w₁ k} hF hv r => (r.blk vb (Array.getElem?_eq_some_iff.1 hv).1 fun x => ⟨((hG w hF).vis vb hvb).1, ((hG w hF).vis vb hvb).2 x⟩).trans hv
   have set' : ∀ {w : World}, w.heap[vb]? = some (cnt32 i) → (w.setCell ⟨vb, 0, none⟩ (.int .i32 (i + 1 : Nat))).heap[vb]? = some (cnt32 (i + 1)) := fun {w} hv => by
     unfold World.setCell cnt32
     unfold cnt32 at hv
     simp [Array.getElem?_modify, hv]
   have hv1 : writM own Given Fz vb 0 := ⟨((hG w hF).vis vb hvb).1, ((hG w hF).vis vb hvb).2 0, hnf vb hvb⟩
   have ht1 : ∀ w, (F w ∧ w.heap[vb]? = some (cnt32 i)) → F (w.setCell ⟨vb, 0, none⟩ (.int .i32 (i + 1 : Nat))) ∧ (w.setCell ⟨vb, 0, none⟩ (.int .i32 (i + 1 : Nat))).heap[vb]? = some (cnt32 (i + 1)) := fun w hw => by
     refine ⟨hT w _ hw.1 (fun b hb => setCell_ne fun e => hb (by rw [hvb]; exact congrArg some e.symm)) (by simp [World.setCell]) rfl rfl rfl (fun b hb => ?_), set' hw.2⟩
     rw [hvb] at hb
     cases hb
     exact ⟨i, hw.2, set' hw.2⟩
   have hs1 : ∀ U w, (F w ∧ w.heap[vb]? = some (cnt32 (i + 1))) → CtC kn vb (yieldV l) n i U → Stop (G ((base 21).at ⟨U, []⟩ (.inRegion ops21y [2, 3] :: k21)) cs) w := fun U' w hw hU' =>
     hS (base 21) ⟨U', []⟩ ops21y 2 [3] k21 w hw.1 (fun b hb => by cases hb; exact hw.2) ⟨U', hU', hi, hx, rfl, rfl, rfl, rfl, rfl, rfl⟩
   have hfin := ct_more (own := own) (Given := Given) (Fz := Fz) (Wg := Wg) (kn := kn) (vb := vb) (n := n) (i := i) (yv := yieldV l) (F := fun w => F w ∧ w.heap[vb]? = some (cnt32 i)) (w := w) (cs := cs) (Stop := Stop) (U := U) (F' := fun w => F w ∧ w.heap[vb]? = some (cnt32 (i + 1))) hU hi h.small (And.intro hF hV') (fun h r => ⟨rl h.1 r, keep h.1 h.2 r⟩) (fun h r => ⟨rl h.1 r, keep h.1 h.2 r⟩) (fun w h => h.2) hv1 (hne vb hvb) ht1 hs1
   exact hfin
 done hF rl hl hS := by
   rw [h.it, h.xs.1] at hl
   obtain ⟨U, hU, rfl⟩ := hl
   exact ct_done hU hF rl hS
 next hF rl hi hy hS := by
   rw [h.it] at hy hS
   obtain ⟨U, hU, hin, rfl, rfl, rfl, rfl, rfl, rfl, rfl⟩ := hy
   exact ct_next hU.u hin h.small hF rl fun U' w hw hU' => hS _ w hw ⟨U', hU', rfl⟩
 op hy := by
   rw [h.it] at hy
   obtain ⟨U, hU, hin, rfl, rfl, rfl, rfl, rfl, rfl, rfl⟩ := hy
   exact ⟨{ dst := some 13, op := .call { callee := .value (.tmp 11), args := #[.tmp 12], argTypes := #[3] }, type := 4, pos := "law.go:81", after := #[{ on := 0, ground := .data }, { on := 1, ground := .data }], guard := none }, .tmp 11, .tmp 12, rfl, rfl, by decide, ⟨#[3], rfl⟩, by simp [Act.eval, hU.t11], by simp [Act.eval, hU.t12]⟩
end Go.Proofs.Ytblpmdolclalnaa
namespace Go.Proofs.Ytblpmdolclalnaa
open Go.Conc
open Go.ConcN (sumTo upd upd_same upd_ne sumTo_upd sumTo_congr)
inductive OPh where
 | idle
 | add1
 | load (c lb : Nat)
 | cas (c m : Nat)
 | cnt
 | sub
structure OA where
 ph : OPh
 x : Nat
 best : Nat
 cnt : List Nat
def i32 (k : Nat) : Value := .int .i32 k
def idxV : Value → Nat | .agg #[.int .i64 n, _] => n.toNat | _ => 0
def OA.ins (a : OA) : Nat := match a.ph with | .idle => 0 | .add1 => 0 | _ => 1
def maxTo : Nat → (Nat → Nat) → Nat | 0, _ => 0 | j + 1, f => max (maxTo j f) (f j)
structure OP where
 bn : Nat
 bm : Nat
 bc : Nat
 n : Nat
 K : Nat
def num32 : Value → Int | .int .i32 k => k | _ => 0
def OA.isA (o : OP) (a : OA) : Option (Nat × Nat) := match a.ph with
 | .idle => none
 | .add1 => some (o.bn, 0)
 | .load _ _ => some (o.bm, 0)
 | .cas _ _ => some (o.bm, 0)
 | .cnt => some (o.bc, a.x)
 | .sub => some (o.bn, 0)
def OA.okAt (a : OA) (v : Value) : Prop := ∃ k : Nat, v = i32 k ∧ match a.ph with
 | .idle => False
 | .add1 => k < 16
 | .load c lb => lb ≤ k ∧ k ≤ 16 ∧ c ≤ 16
 | .cas c m => m ≤ k ∧ k ≤ 16 ∧ m < c ∧ c ≤ 16
 | .cnt => k < 1000
 | .sub => 1 ≤ k ∧ k ≤ 16
def OA.put (a : OA) (v : Value) : Option Value := match a.ph with
 | .idle => none
 | .add1 => some (.int .i32 (num32 v + 1))
 | .load _ _ => none
 | .cas c m => if num32 v = m then some (i32 c) else none
 | .cnt => some (.int .i32 (num32 v + 1))
 | .sub => some (.int .i32 (num32 v - 1))
def OA.turn (a : OA) (v : Value) : OA := match a.ph with
 | .idle => a
 | .add1 => { a with ph := .load ((num32 v).toNat + 1) 0 }
 | .load c _ => if (c : Int) ≤ num32 v then { a with ph := .cnt } else { a with ph := .cas c (num32 v).toNat }
 | .cas c m => if num32 v = m then { a with ph := .cnt, best := c } else { a with ph := .load c (m + 1) }
 | .cnt => { a with ph := .sub, cnt := a.cnt ++ [a.x] }
 | .sub => { a with ph := .idle }
def OA.mu (a : OA) : Nat := match a.ph with
 | .idle => 0
 | .sub => 1
 | .cnt => 2
 | .cas _ m => 37 - 2 * m
 | .load _ lb => 38 - 2 * lb
 | .add1 => 40
def idxs (l : List Value) : List Nat := l.map idxV
def OA.fit (o : OP) (M : Nat) (s : KS × OA) : Prop := s.2.best ≤ o.K ∧ match s.2.ph with
 | .idle => idxs s.1.got = s.2.cnt
 | .add1 => idxs s.1.got = s.2.cnt ++ [s.2.x] ∧ s.2.x < o.n
 | .load c lb => (idxs s.1.got = s.2.cnt ++ [s.2.x] ∧ s.2.x < o.n) ∧ 1 ≤ c ∧ c ≤ o.K ∧ lb ≤ M
 | .cas c m => (idxs s.1.got = s.2.cnt ++ [s.2.x] ∧ s.2.x < o.n) ∧ m < c ∧ c ≤ o.K ∧ m ≤ M
 | .cnt => idxs s.1.got = s.2.cnt ++ [s.2.x] ∧ s.2.x < o.n
 | .sub => idxs s.1.got = s.2.cnt
def mostOf (j : Nat) (fa : Nat → OA) : Nat := maxTo j fun i => (fa i).best
structure OJ (o : OP) (m : MS) (j : Nat) (f : Nat → KS × OA) : Prop where
 fit : ∀ i, i < j → OA.fit o (mostOf j fun i => (f i).2) (f i)
 mult : ∀ x, (sumTo j fun i => (idxs (f i).1.got).count x) = (idxs (PP.sent m)).count x
 len : (PP.sent m).length ≤ o.n
def OP.lay (o : OP) : Lay where
 A := OA
 a0 := ⟨.idle, 0, 0, []⟩
 isA := OA.isA o
 enter := fun v a => { a with ph := .add1, x := idxV v }
 okAt := OA.okAt
 put := OA.put
 turn := OA.turn
 cel := fun b y => (b = o.bn ∧ y = 0) ∨ (b = o.bm ∧ y = 0) ∨ (b = o.bc ∧ y < o.n)
 val := fun j fa b y => if b = o.bn then i32 (sumTo j fun i => (fa i).ins) else if b = o.bm then i32 (mostOf j fa) else i32 (sumTo j fun i => (fa i).cnt.count y)
 J := OJ o
 mu := OA.mu
 C := 50
/-! ### sums and maxima -/
theorem maxTo_le {f : Nat → Nat} {c : Nat} : ∀ {j : Nat}, (∀ i, i < j → f i ≤ c) → maxTo j f ≤ c
 | 0, _ => Nat.zero_le _
 | j + 1, h => by
   have := maxTo_le (j := j) fun i hi => h i (by omega)
   have := h j (by omega)
   simp only [maxTo]; omega
theorem le_maxTo {f : Nat → Nat} {i : Nat} : ∀ {j : Nat}, i < j → f i ≤ maxTo j f
 | 0, h => by omega
 | j + 1, h => by
   simp only [maxTo]
   by_cases e : i = j
   · subst e; omega
   · have := le_maxTo (f := f) (j := j) (i := i) (by omega); omega
theorem maxTo_congr {f g : Nat → Nat} : ∀ {j : Nat}, (∀ i, i < j → f i = g i) → maxTo j f = maxTo j g
 | 0, _ => rfl
 | j + 1, h => by simp only [maxTo]; rw [maxTo_congr fun i hi => h i (by omega), h j (by omega)]
theorem most_same {j i : Nat} {fa : Nat → OA} {a : OA} (h : a.best = (fa i).best) : mostOf j (upd fa i a) = mostOf j fa :=
 maxTo_congr fun k _ => by
   by_cases e : k = i
   · subst e; rw [upd_same]; exact h
   · rw [upd_ne _ _ e]
theorem most_new {j i : Nat} (hi : i < j) {fa : Nat → OA} {a : OA} (h : mostOf j fa ≤ a.best) : mostOf j (upd fa i a) = a.best := by
 refine Nat.le_antisymm (maxTo_le fun k hk => ?_) ?_
 · by_cases e : k = i
   · subst e; rw [upd_same]; exact Nat.le_refl _
   · rw [upd_ne _ _ e]; exact Nat.le_trans (le_maxTo (f := fun i => (fa i).best) hk) h
 · have := le_maxTo (f := fun k => (upd fa i a k).best) hi
   simp only [upd_same] at this
   exact this
theorem sum_le {f : Nat → Nat} {c : Nat} : ∀ {j : Nat}, (∀ i, i < j → f i ≤ c) → sumTo j f ≤ j * c
 | 0, _ => by simp [sumTo]
 | j + 1, h => by
   have := sum_le (j := j) fun i hi => h i (by omega)
   have := h j (by omega)
   simp only [sumTo, Nat.add_mul, Nat.one_mul]; omega
theorem le_sum {f : Nat → Nat} {i : Nat} : ∀ {j : Nat}, i < j → f i ≤ sumTo j f
 | 0, h => by omega
 | j + 1, h => by
   simp only [sumTo]
   by_cases e : i = j
   · subst e; omega
   · have := le_sum (f := f) (j := j) (i := i) (by omega); omega
theorem sum_mono {f g : Nat → Nat} : ∀ {j : Nat}, (∀ i, i < j → f i ≤ g i) → sumTo j f ≤ sumTo j g
 | 0, _ => Nat.le_refl _
 | j + 1, h => by
   simp only [sumTo]
   have := sum_mono (j := j) fun i hi => h i (by omega)
   have := h j (by omega)
   omega
theorem ins_le (a : OA) : a.ins ≤ 1 := by unfold OA.ins; split <;> omega
section
variable {o : OP} {pp : PP} {m : MS} {j : Nat} {f : Nat → KS × OA} {i : Nat}
theorem fit_cnt {M : Nat} {s : KS × OA} (h : OA.fit o M s) (x : Nat) : s.2.cnt.count x ≤ (idxs s.1.got).count x := by
 obtain ⟨ks, ⟨ph, y, best, l⟩⟩ := s
 unfold OA.fit at h
 cases ph <;> simp only at h
 · rw [h.2]; exact Nat.le_refl _
 · rw [h.2.1, List.count_append]; exact Nat.le_add_right _ _
 · rw [h.2.1.1, List.count_append]; exact Nat.le_add_right _ _
 · rw [h.2.1.1, List.count_append]; exact Nat.le_add_right _ _
 · rw [h.2.1, List.count_append]; exact Nat.le_add_right _ _
 · rw [h.2]; exact Nat.le_refl _
theorem fit_mono {M M' : Nat} {s : KS × OA} (h : OA.fit o M s) (hM : M ≤ M') : OA.fit o M' s := by
 obtain ⟨ks, ⟨ph, y, best, l⟩⟩ := s
 unfold OA.fit at h ⊢
 cases ph <;> simp only at h ⊢
 · exact h
 · exact h
 · exact ⟨h.1, h.2.1, h.2.2.1, h.2.2.2.1, Nat.le_trans h.2.2.2.2 hM⟩
 · exact ⟨h.1, h.2.1, h.2.2.1, h.2.2.2.1, Nat.le_trans h.2.2.2.2 hM⟩
 · exact h
 · exact h
theorem OJ.turn (h : OJ o m j f) {m' : MS} {s : KS × OA} (hi : i < j) (hM : mostOf j (fun k => (f k).2) ≤ mostOf j (fun k => (upd f i s k).2)) (hs : OA.fit o (mostOf j (fun k => (upd f i s k).2)) s)
   (hmu : ∀ x, (idxs s.1.got).count x + (idxs (PP.sent m)).count x = (idxs (f i).1.got).count x + (idxs (PP.sent m')).count x) (hl : (PP.sent m').length ≤ o.n) : OJ o m' j (upd f i s) where
 fit k hk := by
   by_cases e : k = i
   · subst e; rw [upd_same]; exact hs
   · rw [upd_ne _ _ e]; exact fit_mono (h.fit k hk) hM
 mult x := by
   have := sumTo_upd f s (fun a => (idxs a.1.got).count x) hi
   have h1 := h.mult x
   have h2 := hmu x
   omega
 len := hl
theorem isA_idle {a : OA} (h : OA.isA o a = none) : a.ph = .idle := by
 unfold OA.isA at h
 split at h <;> first | assumption | cases h
theorem val_same {fa fb : Nat → OA} (h : ∀ k, k < j → (fb k).ins = (fa k).ins ∧ (fb k).best = (fa k).best ∧ (fb k).cnt = (fa k).cnt) (b y : Nat) : o.lay.val j fb b y = o.lay.val j fa b y := by
 show (if b = o.bn then i32 (sumTo j fun i => (fb i).ins) else if b = o.bm then i32 (mostOf j fb) else i32 (sumTo j fun i => (fb i).cnt.count y)) = if b = o.bn then i32 (sumTo j fun i => (fa i).ins) else if b = o.bm then i32 (mostOf j fa) else i32 (sumTo j fun i => (fa i).cnt.count y)
 rw [sumTo_congr fun k hk => (h k hk).1, sumTo_congr (f := fun i => (fb i).cnt.count y) (g := fun i => (fa i).cnt.count y) fun k hk => by rw [(h k hk).2.2], show mostOf j fb = mostOf j fa from maxTo_congr fun k hk => (h k hk).2.1]
theorem val_grow {fa : Nat → OA} {a : OA} (h : a.ins = 0 ∧ a.best = 0 ∧ a.cnt = []) (b y : Nat) : o.lay.val (j + 1) (upd fa j a) b y = o.lay.val j fa b y := by
 show (if b = o.bn then i32 (sumTo (j + 1) fun i => (upd fa j a i).ins) else if b = o.bm then i32 (mostOf (j + 1) (upd fa j a)) else i32 (sumTo (j + 1) fun i => (upd fa j a i).cnt.count y)) = if b = o.bn then i32 (sumTo j fun i => (fa i).ins) else if b = o.bm then i32 (mostOf j fa) else i32 (sumTo j fun i => (fa i).cnt.count y)
 have e : ∀ k, k < j → upd fa j a k = fa k := fun k hk => upd_ne _ _ (by omega)
 simp only [sumTo, mostOf, maxTo, upd_same, h.1, h.2.1, h.2.2, List.count_nil, Nat.add_zero, Nat.max_zero]
 rw [sumTo_congr (g := fun i => (fa i).ins) fun k hk => by rw [e k hk], sumTo_congr (f := fun i => (upd fa j a i).cnt.count y) (g := fun i => (fa i).cnt.count y) fun k hk => by rw [e k hk], maxTo_congr (g := fun i => (fa i).best) fun k hk => by rw [e k hk]]
theorem sent_begun {l : List Value} {m' : MS} (h : pp.begun l m') : PP.sent m' = l := by rcases h with ⟨v, rfl, _⟩ | rfl <;> rfl
theorem snd_upd (f : Nat → KS × OA) (i : Nat) (s : KS × OA) : mostOf j (fun k => (upd f i s k).2) = mostOf j (upd (fun k => (f k).2) i s.2) := by rw [← upd_snd]
theorem count_sent (h : OJ o m j f) (x : Nat) : (sumTo j fun i => (f i).2.cnt.count x) ≤ o.n := by
 have h1 : (sumTo j fun i => (f i).2.cnt.count x) ≤ sumTo j fun i => (idxs (f i).1.got).count x := sum_mono fun k hk => fit_cnt (h.fit k hk) x
 rw [h.mult x] at h1
 have h2 : (idxs (PP.sent m)).count x ≤ (idxs (PP.sent m)).length := List.count_le_length
 have h3 : (idxs (PP.sent m)).length = (PP.sent m).length := by simp [idxs]
 have := h.len
 omega
theorem val_turn {fa : Nat → OA} {a : OA} (hi : i < j) (hne : o.bn ≠ o.bm ∧ o.bn ≠ o.bc ∧ o.bm ≠ o.bc) {b y : Nat} {v : Value}
   (hN : if b = o.bn then v = i32 (sumTo j (fun k => (fa k).ins) + a.ins - (fa i).ins) else a.ins = (fa i).ins)
   (hM : if b = o.bm then v = i32 (mostOf j (upd fa i a)) else a.best = (fa i).best)
   (hC : ∀ z, if b = o.bc ∧ z = y then v = i32 ((sumTo j fun k => (fa k).cnt.count z) + a.cnt.count z - (fa i).cnt.count z) else a.cnt.count z = (fa i).cnt.count z)
   (hb : b = o.bn ∧ y = 0 ∨ b = o.bm ∧ y = 0 ∨ b = o.bc) (b' y' : Nat) (hc : o.lay.cel b' y') : o.lay.val j (upd fa i a) b' y' = if b' = b ∧ y' = y then v else o.lay.val j fa b' y' := by
 have s1 := sumTo_upd fa a OA.ins hi
 have s2 := fun z => sumTo_upd fa a (fun a => a.cnt.count z) hi
 have hc' : (b' = o.bn ∧ y' = 0) ∨ (b' = o.bm ∧ y' = 0) ∨ (b' = o.bc ∧ y' < o.n) := hc
 show (if b' = o.bn then i32 (sumTo j fun k => (upd fa i a k).ins) else if b' = o.bm then i32 (mostOf j (upd fa i a)) else i32 (sumTo j fun k => (upd fa i a k).cnt.count y')) = if b' = b ∧ y' = y then v else if b' = o.bn then i32 (sumTo j fun k => (fa k).ins) else if b' = o.bm then i32 (mostOf j fa) else i32 (sumTo j fun k => (fa k).cnt.count y')
 have e1 : (sumTo j fun k => (upd fa i a k).ins) = sumTo j (fun k => (fa k).ins) + a.ins - (fa i).ins := by
   have : (fa i).ins ≤ sumTo j fun k => (fa k).ins := le_sum (f := fun k => (fa k).ins) hi
   omega
 have e2 : ∀ z, (sumTo j fun k => (upd fa i a k).cnt.count z) = (sumTo j fun k => (fa k).cnt.count z) + a.cnt.count z - (fa i).cnt.count z := fun z => by
   have := s2 z
   have : (fa i).cnt.count z ≤ sumTo j fun k => (fa k).cnt.count z := le_sum (f := fun k => (fa k).cnt.count z) hi
   omega
 obtain ⟨n1, n2, n3⟩ := hne
 rcases hc' with ⟨rfl, rfl⟩ | ⟨rfl, rfl⟩ | ⟨rfl, hy⟩
 · rw [if_pos rfl, if_pos rfl, e1]
   by_cases e : b = o.bn
   · rw [if_pos e] at hN
     rcases hb with h | h | h
     · rw [if_pos ⟨e.symm, h.2.symm⟩, hN]
     · exact absurd (e.symm.trans h.1) n1
     · exact absurd (e.symm.trans h) n2
   · rw [if_neg e] at hN
     rw [if_neg fun x => e x.1.symm, hN, Nat.add_sub_cancel]
 · rw [if_neg n1.symm, if_pos rfl, if_neg n1.symm, if_pos rfl]
   by_cases e : b = o.bm
   · rw [if_pos e] at hM
     rcases hb with h | h | h
     · exact absurd (h.1.symm.trans e) n1
     · rw [if_pos ⟨e.symm, h.2.symm⟩, hM]
     · exact absurd (e.symm.trans h) n3
   · rw [if_neg e] at hM
     rw [if_neg fun x => e x.1.symm, most_same hM]
 · rw [if_neg n2.symm, if_neg n3.symm, if_neg n2.symm, if_neg n3.symm, e2]
   have h := hC y'
   by_cases e : b = o.bc ∧ y' = y
   · rw [if_pos e] at h
     rw [if_pos ⟨e.1.symm, e.2⟩, h]
   · rw [if_neg e] at h
     rw [if_neg fun x => e ⟨x.1.symm, x.2⟩, h, Nat.add_sub_cancel]
end
end Go.Proofs.Ytblpmdolclalnaa
