/- Goroutine 0 alone: the reference's Equal. Made by gen_lac.py. Chain[int]: the calls that are refused: a nil iterator, too many functions, a nil function. Made by gen_cmn.py. The iterator of a list (function 32) as Map wants an iterator. Conditions: SeqIt: the list lies in goroutine 0's memory. Goroutine 0 alone: the reference's Map. Made by gen_lad.py. Goroutine 0 alone: an .. -/
import Derived.Test.YtblpmdolclalnaaQ17
import Derived.Test.YtblpmdolclalnaaQ19
import Derived.Test.YtblpmdolclalnaaQ22
set_option maxHeartbeats 16000000
set_option linter.unusedSimpArgs false
set_option linter.unusedVariables false
namespace Go.Proofs.Ytblpmdolclalnaa
open Go.Conc Go.RowKit Go.Conc.Lib Go.ConcR.Gen Go.ConcN.Gen
noncomputable def body14 : Code := Try.f14.body.getD .skip
noncomputable def tl14 : Nat → Code | 0 => body14 | n + 1 => cS (tl14 n)
noncomputable def lp14 : Code := cI (cI (cS (cF (tl14 2))))
noncomputable def ops14 : Array Oper := cO (cF (cI (cF (cS lp14))))
structure U14 (fa fb : Option Addr) (na ca nb cb i : Nat) (U : Array Value) : Prop where
 size : U.size = 26
 t0 : U[0]? = some (.slice fa na ca)
 t1 : U[1]? = some (.slice fb nb cb)
 t4 : U[4]? = some (.bool false)
 t5 : U[5]? = some (.int .i64 i)
def val14 (ba oa na ca bb ob nb cb i : Nat) (x y : Int) : Nat → Value
 | 0 => .slice (some ⟨ba, oa, none⟩) na ca
 | 1 => .int .i64 i
 | 2 => .pointer (some ⟨ba, oa + i, none⟩)
 | 3 => .int .i64 x
 | 4 => .slice (some ⟨bb, ob, none⟩) nb cb
 | 5 => .int .i64 i
 | 6 => .pointer (some ⟨bb, ob + i, none⟩)
 | 7 => .int .i64 y
 | 8 => .bool (x != y)
 | _ => undef
theorem op14_0 : ops14[0]? = some { dst := some 17, op := Go.Op.move (Go.Operand.tmp 0), type := 22, pos := "ref.go:43", after := #[], guard := none } := by kernel_rfl
theorem op14_1 : ops14[1]? = some { dst := some 18, op := Go.Op.move (Go.Operand.tmp 5), type := 3, pos := "ref.go:43", after := #[], guard := none } := by kernel_rfl
theorem op14_2 : ops14[2]? = some { dst := some 19, op := Go.Op.indexAddr 22 (Go.Operand.tmp 17) (Go.Operand.tmp 18), type := 0, pos := "ref.go:43", after := #[{ on := 0, ground := Go.Ground.data }, { on := 1, ground := Go.Ground.data }], guard := none } := by kernel_rfl
theorem op14_3 : ops14[3]? = some { dst := some 20, op := Go.Op.load 3 (Go.Operand.tmp 19), type := 3, pos := "ref.go:43", after := #[{ on := 2, ground := Go.Ground.data }], guard := none } := by kernel_rfl
theorem op14_4 : ops14[4]? = some { dst := some 21, op := Go.Op.move (Go.Operand.tmp 1), type := 22, pos := "ref.go:43", after := #[], guard := none } := by kernel_rfl
theorem op14_5 : ops14[5]? = some { dst := some 22, op := Go.Op.move (Go.Operand.tmp 5), type := 3, pos := "ref.go:43", after := #[], guard := none } := by kernel_rfl
theorem op14_6 : ops14[6]? = some { dst := some 23, op := Go.Op.indexAddr 22 (Go.Operand.tmp 21) (Go.Operand.tmp 22), type := 0, pos := "ref.go:43", after := #[{ on := 4, ground := Go.Ground.data }, { on := 5, ground := Go.Ground.data }], guard := none } := by kernel_rfl
theorem op14_7 : ops14[7]? = some { dst := some 24, op := Go.Op.load 3 (Go.Operand.tmp 23), type := 3, pos := "ref.go:43", after := #[{ on := 6, ground := Go.Ground.data }], guard := none } := by kernel_rfl
theorem op14_8 : ops14[8]? = some { dst := some 25, op := Go.Op.binOp Go.BinOp.neq 3 (Go.Operand.tmp 20) (Go.Operand.tmp 24) 3, type := 4, pos := "ref.go:43", after := #[{ on := 3, ground := Go.Ground.data }, { on := 7, ground := Go.Ground.data }], guard := none } := by kernel_rfl
theorem d14 {o : Oper} {i : Nat} (h : ops14[i]? = some o) : i < 9 := by
 have := (Array.getElem?_eq_some_iff.1 h).1
 have e : ops14.size = 9 := by kernel_rfl
 omega
section
variable {Shun : Nat → Prop} {w w₁ : World} {b₀ : Frame} {a₀ : Act} {ops₀ : Array Oper} {i₀ : Nat} {rest₀ : List Nat} {k₀ : List Item} {cs : List Frame} {fa fb : Option Addr} {ca cb i ba oa bb ob na nb : Nat} {ns ms : List Int} {x y : Int}
set_option maxRecDepth 100000 in
theorem quiet14 {T0 : Array Value} (hT : U14 (some ⟨ba, oa, none⟩) (some ⟨bb, ob, none⟩) na ca nb cb i T0) (hia : i < na) (hib : i < nb) (hsa : ¬ Shun ba) (hsb : ¬ Shun bb) (hca : w.cell? ⟨ba, oa + i, none⟩ = some (.int .i64 x)) (hcb : w.cell? ⟨bb, ob + i, none⟩ = some (.int .i64 y)) :
   QuietR Try.prog (base 14).fn ops14 T0 [] (fun k => 17 + k) (val14 ba oa na ca bb ob nb cb i x y) (AtRel w) (SD Shun) := by
 have e9 : ops14.size = 9 := by kernel_rfl
 refine ⟨fun a b _ _ h => by omega, fun i hi => by rw [hT.size]; omega, fun k o h => ?_, fun k o h => ?_, fun k o T w₁ h hF hdep hbase => ?_⟩
 · have hk := d14 h
   have : k = 0 ∨ k = 1 ∨ k = 2 ∨ k = 3 ∨ k = 4 ∨ k = 5 ∨ k = 6 ∨ k = 7 ∨ k = 8 := by omega
   rcases this with rfl | rfl | rfl | rfl | rfl | rfl | rfl | rfl | rfl <;> (first | rw [op14_0] at h | rw [op14_1] at h | rw [op14_2] at h | rw [op14_3] at h | rw [op14_4] at h | rw [op14_5] at h | rw [op14_6] at h | rw [op14_7] at h | rw [op14_8] at h) <;> (cases h; exact ⟨rfl, rfl⟩)
 · have hk := d14 h
   have : k = 0 ∨ k = 1 ∨ k = 2 ∨ k = 3 ∨ k = 4 ∨ k = 5 ∨ k = 6 ∨ k = 7 ∨ k = 8 := by omega
   rcases this with rfl | rfl | rfl | rfl | rfl | rfl | rfl | rfl | rfl <;> (first | rw [op14_0] at h | rw [op14_1] at h | rw [op14_2] at h | rw [op14_3] at h | rw [op14_4] at h | rw [op14_5] at h | rw [op14_6] at h | rw [op14_7] at h | rw [op14_8] at h) <;> (cases h; intro e he; simp at he; try (rcases he with rfl | rfl <;> simp); try (subst he; simp))
 · have hk := d14 h
   have b0 := (hbase 0 fun k hk => by omega).trans hT.t0
   have b1 := (hbase 1 fun k hk => by omega).trans hT.t1
   have b5 := (hbase 5 fun k hk => by omega).trans hT.t5
   have ha : w₁.cell? ⟨ba, oa + i, none⟩ = some (.int .i64 x) := by obtain ⟨d, rfl⟩ := hF; exact hca
   have hb : w₁.cell? ⟨bb, ob + i, none⟩ = some (.int .i64 y) := by obtain ⟨d, rfl⟩ := hF; exact hcb
   have : k = 0 ∨ k = 1 ∨ k = 2 ∨ k = 3 ∨ k = 4 ∨ k = 5 ∨ k = 6 ∨ k = 7 ∨ k = 8 := by omega
   have ia : (0 : Int) ≤ (i : Int) ∧ (i : Int) < (na : Int) := by omega
   have ib : (0 : Int) ≤ (i : Int) ∧ (i : Int) < (nb : Int) := by omega
   have nil : ∀ (es : Array Event), (∀ e ∈ es, False) → SD Shun w₁ w₁ es := fun es h => g_idle (fun w => sd_idle w) h
   rcases this with rfl | rfl | rfl | rfl | rfl | rfl | rfl | rfl | rfl
   · rw [op14_0] at h
     cases h
     constructor
     · simp [execOp, go_sem, val14, b0]
     · refine nil _ fun ev hev => ?_
       have hm := mem_listed hev
       simp [execOp, go_sem, b0] at hm
   · rw [op14_1] at h
     cases h
     constructor
     · simp [execOp, go_sem, val14, b5]
     · refine nil _ fun ev hev => ?_
       have hm := mem_listed hev
       simp [execOp, go_sem, b5] at hm
   · rw [op14_2] at h
     cases h
     have e0 : T[17]? = some (.slice (some ⟨ba, oa, none⟩) na ca) := hdep ⟨0, .data⟩ (by simp) rfl
     have e1 : T[18]? = some (.int .i64 i) := hdep ⟨1, .data⟩ (by simp) rfl
     constructor
     · simp [execOp, go_sem, val14, e0, e1, ia]
     · refine nil _ fun ev hev => ?_
       have hm := mem_listed hev
       simp [execOp, go_sem, e0, e1, ia] at hm
   · rw [op14_3] at h
     cases h
     have e2 : T[19]? = some (.pointer (some ⟨ba, oa + i, none⟩)) := hdep ⟨2, .data⟩ (by simp) rfl
     constructor
     · simp [execOp, go_sem, val14, e2, ha]
     · refine sd_read fun ev hev => ?_
       have hm := mem_listed hev
       simp [execOp, go_sem, e2, ha] at hm
       exact ⟨_, _, _, hm, hsa, cell_lt ha⟩
   · rw [op14_4] at h
     cases h
     constructor
     · simp [execOp, go_sem, val14, b1]
     · refine nil _ fun ev hev => ?_
       have hm := mem_listed hev
       simp [execOp, go_sem, b1] at hm
   · rw [op14_5] at h
     cases h
     constructor
     · simp [execOp, go_sem, val14, b5]
     · refine nil _ fun ev hev => ?_
       have hm := mem_listed hev
       simp [execOp, go_sem, b5] at hm
   · rw [op14_6] at h
     cases h
     have e4 : T[21]? = some (.slice (some ⟨bb, ob, none⟩) nb cb) := hdep ⟨4, .data⟩ (by simp) rfl
     have e5 : T[22]? = some (.int .i64 i) := hdep ⟨5, .data⟩ (by simp) rfl
     constructor
     · simp [execOp, go_sem, val14, e4, e5, ib]
     · refine nil _ fun ev hev => ?_
       have hm := mem_listed hev
       simp [execOp, go_sem, e4, e5, ib] at hm
   · rw [op14_7] at h
     cases h
     have e6 : T[23]? = some (.pointer (some ⟨bb, ob + i, none⟩)) := hdep ⟨6, .data⟩ (by simp) rfl
     constructor
     · simp [execOp, go_sem, val14, e6, hb]
     · refine sd_read fun ev hev => ?_
       have hm := mem_listed hev
       simp [execOp, go_sem, e6, hb] at hm
       exact ⟨_, _, _, hm, hsb, cell_lt hb⟩
   · rw [op14_8] at h
     cases h
     have e3 : T[20]? = some (.int .i64 x) := hdep ⟨3, .data⟩ (by simp) rfl
     have e7 : T[24]? = some (.int .i64 y) := hdep ⟨7, .data⟩ (by simp) rfl
     constructor
     · simp [execOp, go_sem, val14, e3, e7]
     · refine nil _ fun ev hev => ?_
       have hm := mem_listed hev
       simp [execOp, go_sem, e3, e7] at hm
set_option maxRecDepth 100000 in
theorem eq_round {Stop : Goroutine → World → Prop} (hA : Ls Shun fa (ints ns) w) (hB : Ls Shun fb (ints ms) w) (hl : ms.length = ns.length) (hlen : ns.length < 4611686018427387904) (hx : ns[i]? = some x) (hy : ms[i]? = some y) {U : Array Value} (hU : U14 fa fb ns.length ca ns.length cb i U) (hF : AtRel w w₁)
   (hno : x = y → ∀ U w₁, AtRel w w₁ → U14 fa fb ns.length ca ns.length cb (i + 1) U → Stop (G ((base 14).at ⟨U, []⟩ [.code lp14, .inLoop lp14, .inBlock 0, .code (tl14 3)]) (b₀.at a₀ (.inRegion ops₀ (i₀ :: rest₀) :: k₀) :: cs)) w₁)
   (hyes : x ≠ y → ∀ w₁, AtRel w w₁ → Stop (G (b₀.at (a₀.put ((ops₀[i₀]?).bind (·.dst)) (.bool false)) (.inRegion ops₀ rest₀ :: k₀)) cs) w₁) :
   Goes Try.prog true AtRel (SD Shun) Stop 60 (G ((base 14).at ⟨U, []⟩ [.code lp14, .inLoop lp14, .inBlock 0, .code (tl14 3)]) (b₀.at a₀ (.inRegion ops₀ (i₀ :: rest₀) :: k₀) :: cs)) w₁ := by
 have hD : ∀ w, SD Shun w w #[] := sd_idle
 have rl : ∀ {w₁ w₂ : World}, AtRel w w₁ → AtRel w₁ w₂ → AtRel w w₂ := fun h r => AtRel.steady.rel h r
 obtain ⟨hs, t0, t1, t4, t5⟩ := hU
 obtain ⟨v0, v1, v2, v3, v4, v5, v6, v7, v8, v9, v10, v11, v12, v13, v14, v15, v16, v17, v18, v19, v20, v21, v22, v23, v24, v25, rfl⟩ := array26 U hs
 simp only [List.getElem?_toArray, List.getElem?_cons_zero, List.getElem?_cons_succ, Option.some.injEq] at t0 t1 t4 t5
 subst t0 t1 t4 t5
 clear hs
 have hi : i < ns.length := (List.getElem?_eq_some_iff.1 hx).1
 have hlt : decide ((i : Int) < (ns.length : Int)) = true := decide_eq_true (by omega)
 have hadd : IntKind.i64.wrap ((i : Int) + 1) = ((i + 1 : Nat) : Int) := by rw [IntKind.wrap_i64]; omega
 obtain ⟨ba, oa, rfl, hsa, hca⟩ := hA i (.int .i64 x) (by rw [List.getElem?_map, hx]; rfl)
 obtain ⟨bb, ob, rfl, hsb, hcb⟩ := hB i (.int .i64 y) (by rw [List.getElem?_map, hy]; rfl)
 replace hlen := Hd.mk hlen
 replace hno := Hd.mk hno
 replace hyes := Hd.mk hyes
 have hQ := Hd.mk fun (T0 : Array Value) (h : U14 (some ⟨ba, oa, none⟩) (some ⟨bb, ob, none⟩) ns.length ca ns.length cb i T0) => quiet14 h hi hi hsa hsb hca hcb
 simp only [ops14, lp14, tl14, cO, cS, cF, cI, body14, Try.f14, Option.getD_some] at hQ
 clear hA hB hx hy hca hcb hl
 simp only [lp14, tl14, cS, cF, cI, body14, Try.f14, Option.getD_some] at hno ⊢
 repeat ((first | ((with_reducible refine g_opG ?_); first | (refine g_unw hD rfl rfl ?_; intro _ h₁; replace hF := rl hF h₁; clear h₁; walk_nrm) | (refine Goes.step rfl ?_; intro _ h₁; replace hF := rl hF h₁; clear h₁; refine goes_oper_k rfl rfl (by k_ne) fun K hK => ?_; go_simp; refine hK _ _ ⟨?_, ?_⟩; (focus (refine g_idle hD ?_; intro e he; have hm := mem_listed he; simp [go_sem, *] at hm; done)); clear hK K; try w_num)) | ((first | ((with_reducible refine g_c (k' := ?_) true true hD ?_ ?_); rotate_left; focus exact rfl) | with_reducible refine g_r hD rfl ?_); intro _ h₁; replace hF := rl hF h₁; clear h₁)))
 refine Goes.mono (n := 30 + 9 + 1) (goes_still (by kernel_rfl) (fun w => ⟨Nat.le_refl _, fun e he => by simp at he⟩) (hQ.out _ ⟨rfl, rfl, rfl, rfl, rfl⟩) (by decide) rl (fun w' h => by obtain ⟨d, rfl⟩ := h; exact ⟨d + 1, rfl⟩) hF (fun w₂ hF => ?_)) (by omega)
 have e : fillD #[.slice (some ⟨ba, oa, none⟩) ns.length ca, .slice (some ⟨bb, ob, none⟩) ns.length cb, v2, v3, .bool false, .int .i64 i, v6, v7, v8, v9, v10, .int .i64 i, .slice (some ⟨ba, oa, none⟩) ns.length ca, .int .i64 ns.length, .bool true, v15, v16, v17, v18, v19, v20, v21, v22, v23, v24, v25] (fun k => 17 + k) (val14 ba oa ns.length ca bb ob ns.length cb i x y) (Array.replicate 9 true) 9 = #[.slice (some ⟨ba, oa, none⟩) ns.length ca, .slice (some ⟨bb, ob, none⟩) ns.length cb, v2, v3, .bool false, .int .i64 i, v6, v7, v8, v9, v10, .int .i64 i, .slice (some ⟨ba, oa, none⟩) ns.length ca, .int .i64 ns.length, .bool true, v15, v16, .slice (some ⟨ba, oa, none⟩) ns.length ca, .int .i64 i, .pointer (some ⟨ba, oa + i, none⟩), .int .i64 x, .slice (some ⟨bb, ob, none⟩) ns.length cb, .int .i64 i, .pointer (some ⟨bb, ob + i, none⟩), .int .i64 y, .bool (x != y)] := by rfl
 simp only [List.size_toArray, List.length_cons, List.length_nil, Nat.reduceAdd, Nat.zero_add]
 rw [e]
 clear e hQ
 by_cases c1 : x = y
 · have d1 : (x != y) = false := by simp [c1]
   rw [d1]
   repeat ((first | ((with_reducible refine g_opG ?_); first | (refine g_unw hD rfl rfl ?_; intro _ h₁; replace hF := rl hF h₁; clear h₁; walk_nrm) | (refine Goes.step rfl ?_; intro _ h₁; replace hF := rl hF h₁; clear h₁; refine goes_oper_k rfl rfl (by k_ne) fun K hK => ?_; go_simp; refine hK _ _ ⟨?_, ?_⟩; (focus (refine g_idle hD ?_; intro e he; have hm := mem_listed he; simp [go_sem, *] at hm; done)); clear hK K; try w_num)) | ((first | ((with_reducible refine g_c (k' := ?_) false true hD ?_ ?_); rotate_left; focus exact rfl) | with_reducible refine g_r hD rfl ?_); intro _ h₁; replace hF := rl hF h₁; clear h₁)))
   (first | ((with_reducible refine g_opG ?_); first | (refine g_unw hD rfl rfl ?_; intro _ h₁; replace hF := rl hF h₁; clear h₁; walk_nrm) | (refine Goes.step rfl ?_; intro _ h₁; replace hF := rl hF h₁; clear h₁; refine goes_oper_k rfl rfl (by k_ne) fun K hK => ?_; go_simp; refine hK _ _ ⟨?_, ?_⟩; (focus (refine g_idle hD ?_; intro e he; have hm := mem_listed he; simp [go_sem, *] at hm; done)); clear hK K; try w_num)) | ((first | ((with_reducible refine g_c (k' := ?_) true true hD ?_ ?_); rotate_left; focus exact rfl) | with_reducible refine g_r hD rfl ?_); intro _ h₁; replace hF := rl hF h₁; clear h₁))
   exact Goes.stop fun w₄ h₄ => hno.out c1 _ _ (rl hF h₄) ⟨rfl, rfl, rfl, rfl, rfl⟩
 · have d1 : (x != y) = true := by simp [c1]
   rw [d1]
   repeat ((first | ((with_reducible refine g_opG ?_); first | (refine g_unw hD rfl rfl ?_; intro _ h₁; replace hF := rl hF h₁; clear h₁; walk_nrm) | (refine Goes.step rfl ?_; intro _ h₁; replace hF := rl hF h₁; clear h₁; refine goes_oper_k rfl rfl (by k_ne) fun K hK => ?_; go_simp; refine hK _ _ ⟨?_, ?_⟩; (focus (refine g_idle hD ?_; intro e he; have hm := mem_listed he; simp [go_sem, *] at hm; done)); clear hK K; try w_num)) | ((first | ((with_reducible refine g_c (k' := ?_) true true hD ?_ ?_); rotate_left; focus exact rfl) | with_reducible refine g_r hD rfl ?_); intro _ h₁; replace hF := rl hF h₁; clear h₁)))
   refine Goes.step rfl fun w₃ h₃ => ?_
   replace hF := rl hF h₃
   clear h₃
   refine goes_leave1 rfl rfl Try.func14 rfl ⟨sd_idle _, ?_⟩
   exact Goes.stop fun w₄ h₄ => hyes.out c1 _ (rl hF h₄)
set_option maxRecDepth 100000 in
theorem eq_first {Stop : Goroutine → World → Prop} (hF : AtRel w w₁)
   (hgo : na = nb → ∀ U w₁, AtRel w w₁ → U14 fa fb na ca na cb 0 U → Stop (G ((base 14).at ⟨U, []⟩ [.code lp14, .inLoop lp14, .inBlock 0, .code (tl14 3)]) (b₀.at a₀ (.inRegion ops₀ (i₀ :: rest₀) :: k₀) :: cs)) w₁)
   (hne : na ≠ nb → ∀ w₁, AtRel w w₁ → Stop (G (b₀.at (a₀.put ((ops₀[i₀]?).bind (·.dst)) (.bool false)) (.inRegion ops₀ rest₀ :: k₀)) cs) w₁) :
   Goes Try.prog true AtRel (SD Shun) Stop 40 (G ((base 14).at ⟨#[.slice fa na ca, .slice fb nb cb, undef, undef, undef, undef, undef, undef, undef, undef, undef, undef, undef, undef, undef, undef, undef, undef, undef, undef, undef, undef, undef, undef, undef, undef], []⟩ [.code body14]) (b₀.at a₀ (.inRegion ops₀ (i₀ :: rest₀) :: k₀) :: cs)) w₁ := by
 have hD : ∀ w, SD Shun w w #[] := sd_idle
 have rl : ∀ {w₁ w₂ : World}, AtRel w w₁ → AtRel w₁ w₂ → AtRel w w₂ := fun h r => AtRel.steady.rel h r
 replace hgo := Hd.mk hgo
 replace hne := Hd.mk hne
 simp only [lp14, tl14, cS, cF, cI, body14, Try.f14, Option.getD_some] at hgo ⊢
 by_cases c1 : na = nb
 · subst c1
   have d1 : ((na : Int) != (na : Int)) = false := by simp
   repeat ((first | ((with_reducible refine g_opG ?_); first | (refine g_unw hD rfl rfl ?_; intro _ h₁; replace hF := rl hF h₁; clear h₁; walk_nrm) | (refine Goes.step rfl ?_; intro _ h₁; replace hF := rl hF h₁; clear h₁; refine goes_oper_k rfl rfl (by k_ne) fun K hK => ?_; go_simp; refine hK _ _ ⟨?_, ?_⟩; (focus (refine g_idle hD ?_; intro e he; have hm := mem_listed he; simp [go_sem, *] at hm; done)); clear hK K; try w_num)) | ((first | ((with_reducible refine g_c (k' := ?_) true false hD ?_ ?_); rotate_left; focus exact rfl) | with_reducible refine g_r hD rfl ?_); intro _ h₁; replace hF := rl hF h₁; clear h₁)))
   (first | ((with_reducible refine g_opG ?_); first | (refine g_unw hD rfl rfl ?_; intro _ h₁; replace hF := rl hF h₁; clear h₁; walk_nrm) | (refine Goes.step rfl ?_; intro _ h₁; replace hF := rl hF h₁; clear h₁; refine goes_oper_k rfl rfl (by k_ne) fun K hK => ?_; go_simp; refine hK _ _ ⟨?_, ?_⟩; (focus (refine g_idle hD ?_; intro e he; have hm := mem_listed he; simp [go_sem, *] at hm; done)); clear hK K; try w_num)) | ((first | ((with_reducible refine g_c (k' := ?_) true true hD ?_ ?_); rotate_left; focus exact rfl) | with_reducible refine g_r hD rfl ?_); intro _ h₁; replace hF := rl hF h₁; clear h₁))
   exact Goes.stop fun w₄ h₄ => hgo.out rfl _ _ (rl hF h₄) ⟨rfl, rfl, rfl, rfl, rfl⟩
 · have d1 : ((na : Int) != (nb : Int)) = true := by have : (na : Int) ≠ (nb : Int) := (by omega); simpa using this
   repeat ((first | ((with_reducible refine g_opG ?_); first | (refine g_unw hD rfl rfl ?_; intro _ h₁; replace hF := rl hF h₁; clear h₁; walk_nrm) | (refine Goes.step rfl ?_; intro _ h₁; replace hF := rl hF h₁; clear h₁; refine goes_oper_k rfl rfl (by k_ne) fun K hK => ?_; go_simp; refine hK _ _ ⟨?_, ?_⟩; (focus (refine g_idle hD ?_; intro e he; have hm := mem_listed he; simp [go_sem, *] at hm; done)); clear hK K; try w_num)) | ((first | ((with_reducible refine g_c (k' := ?_) true true hD ?_ ?_); rotate_left; focus exact rfl) | with_reducible refine g_r hD rfl ?_); intro _ h₁; replace hF := rl hF h₁; clear h₁)))
   refine Goes.step rfl fun w₃ h₃ => ?_
   replace hF := rl hF h₃
   clear h₃
   refine goes_leave1 rfl rfl Try.func14 rfl ⟨sd_idle _, ?_⟩
   exact Goes.stop fun w₄ h₄ => hne.out c1 _ (rl hF h₄)
set_option maxRecDepth 100000 in
theorem eq_done {Stop : Goroutine → World → Prop} {U : Array Value} (hU : U14 fa fb na ca na cb na U) (hF : AtRel w w₁)
   (hgo : ∀ w₁, AtRel w w₁ → Stop (G (b₀.at (a₀.put ((ops₀[i₀]?).bind (·.dst)) (.bool true)) (.inRegion ops₀ rest₀ :: k₀)) cs) w₁) :
   Goes Try.prog true AtRel (SD Shun) Stop 40 (G ((base 14).at ⟨U, []⟩ [.code lp14, .inLoop lp14, .inBlock 0, .code (tl14 3)]) (b₀.at a₀ (.inRegion ops₀ (i₀ :: rest₀) :: k₀) :: cs)) w₁ := by
 have hD : ∀ w, SD Shun w w #[] := sd_idle
 have rl : ∀ {w₁ w₂ : World}, AtRel w w₁ → AtRel w₁ w₂ → AtRel w w₂ := fun h r => AtRel.steady.rel h r
 obtain ⟨hs, t0, t1, t4, t5⟩ := hU
 obtain ⟨v0, v1, v2, v3, v4, v5, v6, v7, v8, v9, v10, v11, v12, v13, v14, v15, v16, v17, v18, v19, v20, v21, v22, v23, v24, v25, rfl⟩ := array26 U hs
 simp only [List.getElem?_toArray, List.getElem?_cons_zero, List.getElem?_cons_succ, Option.some.injEq] at t0 t1 t4 t5
 subst t0 t1 t4 t5
 clear hs
 have hlt : decide ((na : Int) < (na : Int)) = false := decide_eq_false (by omega)
 replace hgo := Hd.mk hgo
 simp only [lp14, tl14, cS, cF, cI, body14, Try.f14, Option.getD_some] at hgo ⊢
 repeat ((first | ((with_reducible refine g_opG ?_); first | (refine g_unw hD rfl rfl ?_; intro _ h₁; replace hF := rl hF h₁; clear h₁; walk_nrm) | (refine Goes.step rfl ?_; intro _ h₁; replace hF := rl hF h₁; clear h₁; refine goes_oper_k rfl rfl (by k_ne) fun K hK => ?_; go_simp; refine hK _ _ ⟨?_, ?_⟩; (focus (refine g_idle hD ?_; intro e he; have hm := mem_listed he; simp [go_sem, *] at hm; done)); clear hK K; try w_num)) | ((first | ((with_reducible refine g_c (k' := ?_) true true hD ?_ ?_); rotate_left; focus exact rfl) | with_reducible refine g_r hD rfl ?_); intro _ h₁; replace hF := rl hF h₁; clear h₁)))
 refine Goes.step rfl fun w₃ h₃ => ?_
 replace hF := rl hF h₃
 clear h₃
 refine goes_leave1 rfl rfl Try.func14 rfl ⟨sd_idle _, ?_⟩
 exact Goes.stop fun w₄ h₄ => hgo.out _ (rl hF h₄)
theorem eq_loop {N0 : Nat} (hA : Ls Shun fa (ints ns) w) (hB : Ls Shun fb (ints ms) w) (hl : ms.length = ns.length) (hlen : ns.length < 4611686018427387904) : ∀ (m i : Nat) (U : Array Value) (w₁ : World), i + m = ns.length → ns.take i = ms.take i → AtRel w w₁ → U14 fa fb ns.length ca ns.length cb i U →
   Lone Try.prog N0 (fun S g w' => S = Shun ∧ AtRel w w' ∧ g = G (b₀.at (a₀.put ((ops₀[i₀]?).bind (·.dst)) (.bool (decide (ns = ms)))) (.inRegion ops₀ rest₀ :: k₀)) cs) Shun (G ((base 14).at ⟨U, []⟩ [.code lp14, .inLoop lp14, .inBlock 0, .code (tl14 3)]) (b₀.at a₀ (.inRegion ops₀ (i₀ :: rest₀) :: k₀) :: cs)) w₁ := by
 intro m
 induction m with
 | zero =>
   intro i U w₁ hi ha hF hU
   obtain rfl : i = ns.length := by omega
   have e : ns = ms := by
     rw [List.take_length, ← hl, List.take_length] at ha
     exact ha
   refine Lone.goes (n := 40) (eq_done hU hF fun w₂ h₂ => ⟨rfl, h₂, ?_⟩)
   rw [decide_eq_true e]
 | succ m ih =>
   intro i U w₁ hi ha hF hU
   have hlt : i < ns.length := by omega
   have hv : ns[i]? = some ns[i] := List.getElem?_eq_getElem hlt
   have hv' : ms[i]? = some ms[i] := List.getElem?_eq_getElem (by omega)
   refine Lone.on (n := 60) (eq_round hA hB hl hlen hv hv' hU hF (fun hn U' w' hF' hU' _ => ?_) (fun hy w' hF' _ => ?_))
   · refine ih (i + 1) U' w' (by omega) ?_ hF' hU'
     rw [List.take_add_one, List.take_add_one, hv, hv', ha, hn]
   · refine Lone.done ⟨rfl, hF', ?_⟩
     have : ns ≠ ms := fun e => hy (by subst e; rfl)
     rw [decide_eq_false this]
theorem equal_call {N0 : Nat} (hA : Ls Shun fa (ints ns) w) (hB : Ls Shun fb (ints ms) w) (hlen : ns.length < 4611686018427387904) :
   Lone Try.prog N0 (fun S g w' => S = Shun ∧ AtRel w w' ∧ g = G (b₀.at (a₀.put ((ops₀[i₀]?).bind (·.dst)) (.bool (decide (ns = ms)))) (.inRegion ops₀ rest₀ :: k₀)) cs) Shun (G ((base 14).at ⟨#[.slice fa ns.length ca, .slice fb ms.length cb, undef, undef, undef, undef, undef, undef, undef, undef, undef, undef, undef, undef, undef, undef, undef, undef, undef, undef, undef, undef, undef, undef, undef, undef], []⟩ [.code body14]) (b₀.at a₀ (.inRegion ops₀ (i₀ :: rest₀) :: k₀) :: cs)) w := by
 refine Lone.on (n := 40) (eq_first ⟨w.drawn, rfl⟩ (fun hl U w₁ hF hU _ => eq_loop hA hB hl.symm hlen ns.length 0 U w₁ (by omega) (by simp) hF hU) (fun hne w₁ hF _ => Lone.done ⟨rfl, hF, ?_⟩))
 have : ns ≠ ms := fun e => hne (by rw [e])
 rw [decide_eq_false this]
end
section
variable {Shun : Nat → Prop} {F : World → Prop} {w : World} {cs : List Frame} {fa : Option Addr} {nf cap N0 : Nat} {b₀ : Frame} {a₀ : Act} {ops₀ : Array Oper} {i₀ : Nat} {rest₀ : List Nat} {k₀ : List Item}
end
end Go.Proofs.Ytblpmdolclalnaa
namespace Go.Proofs.Ytblpmdolclalnaa
open Go.Conc
def seqIt (kl n : Nat) : Iter where
 vb := none
 ent l fr := fr = (base 32).at ⟨#[yieldV l, ptr kl, undef, undef, undef, undef, undef, undef, undef, undef, undef, undef, undef, undef, undef, undef, undef], []⟩ [.code body32]
 loop l i fr := ∃ U, ItU kl (yieldV l) n i U ∧ fr = (base 32).at ⟨U, []⟩ [.code lp32, .inLoop lp32, .inBlock 0]
 yld l i x b a ops j rest k := ∃ U, ItC kl (yieldV l) n i (.int .i64 x) U ∧ b = base 32 ∧ a = ⟨U, []⟩ ∧ ops = ops32 ∧ j = 5 ∧ rest = [6] ∧ k = k32
structure SeqIt (m : MpM) (kl : Nat) (sa : Option Addr) (cap : Nat) : Prop where
 it : m.it = seqIt kl m.xs.length
 fv : m.inV = seqV kl
 low : kl < m.n0 ∧ ¬ m.Off kl
 box : m.w0.cell? ⟨kl, 0, none⟩ = some (.slice sa m.xs.length cap)
 elem : ∀ (i : Nat) (v : Value), m.xs[i]? = some v → ∃ bl o, sa = some ⟨bl, o, none⟩ ∧ bl < m.n0 ∧ ¬ m.Off bl ∧ m.w0.cell? ⟨bl, o + i, none⟩ = some v
 small : m.xs.length < 1000000 ∧ ∀ v ∈ m.xs, isI v
theorem SeqIt.k {m : MpM} {kl cap : Nat} {sa : Option Addr} (h : SeqIt m kl sa cap) {own : Nat → Prop} {Given : Cells} {w : World} (g : Gnd m own Given w) : ItK own Given kl sa cap m.xs w := by
 have hb := g.cell _ _ _ h.low.1 h.low.2 h.box
 refine ⟨hb.1, hb.2, fun i v hv => ?_⟩
 obtain ⟨bl, o, h1, h2, h3, h4⟩ := h.elem i v hv
 have hc := g.cell _ _ _ h2 h3 h4
 exact ⟨bl, o, h1, hc.1, hc.2.1, hc.2.2, h.small.2 v (List.mem_of_getElem? hv)⟩
theorem seqIt_ok {m : MpM} {kl cap : Nat} {sa : Option Addr} (h : SeqIt m kl sa cap) : IterOK m where
 vb b hb := by rw [h.it] at hb; cases hb
 range ha hK := goes_range32 (ha.trans h.fv) (hK _ (by rw [h.it]; rfl))
 first hF rl hG he hS := by
   rw [h.it] at he hS
   have he' : _ = _ := he
   rw [he']
   exact it_first (xs := m.xs) hF rl (fun w hw => h.k (hG w hw)) fun U w hw hU => hS _ w hw ⟨U, hU, rfl⟩
 more hF _ rl hG _ _ _ hl hv hS := by
   rw [h.it] at hl hS
   obtain ⟨U, hU, rfl⟩ := hl
   exact Goes.mono (it_more (xs := m.xs) hF rl (fun w hw => h.k (hG w hw)) hU h.small.1 hv fun U' w hw hU' => hS _ _ _ _ _ _ w hw (fun b hb => by cases hb) ⟨U', hU', rfl, rfl, rfl, rfl, rfl, rfl⟩) (by omega)
 done hF rl hl hS := by
   rw [h.it] at hl
   obtain ⟨U, hU, rfl⟩ := hl
   exact it_done hF rl hU hS
 next hF rl hi hy hS := by
   rw [h.it] at hy hS
   obtain ⟨U, hU, rfl, rfl, rfl, rfl, rfl, rfl⟩ := hy
   exact it_next (xs := m.xs) hF rl hU.u hi h.small.1 fun U' w hw hU' => hS _ w hw ⟨U', hU', rfl⟩
 op hy := by
   rw [h.it] at hy
   obtain ⟨U, hU, rfl, rfl, rfl, rfl, rfl, rfl⟩ := hy
   exact ⟨{ dst := some 14, op := .call { callee := .value (.tmp 9), args := #[.tmp 13], argTypes := #[3] }, type := 4, pos := "law.go:27", after := #[{ on := 0, ground := .data }, { on := 4, ground := .data }], guard := none }, .tmp 9, .tmp 13, rfl, rfl, by decide, ⟨#[3], rfl⟩, by simp [Act.eval, hU.t9], by simp [Act.eval, hU.t13]⟩
end Go.Proofs.Ytblpmdolclalnaa
namespace Go.Proofs.Ytblpmdolclalnaa
open Go.Conc Go.RowKit Go.Conc.Lib Go.ConcR.Gen Go.ConcN.Gen
structure U15 (fa : Option Addr) (n cap : Nat) (c : Int) (vo : Value) (i : Nat) (U : Array Value) : Prop where
 size : U.size = 23
 t0 : U[0]? = some (.int .u8 c)
 t1 : U[1]? = some (.slice fa n cap)
 t5 : U[5]? = some vo
 t6 : U[6]? = some (.int .i64 i)
structure RMp (Shun : Nat → Prop) (w : World) (ys : List Int) (vo : Value) (w₁ : World) : Prop where
 keep : Keep Shun w Shun w₁
 row : w₁.ownsRow 0 3 1 vo ys.length (ints ys)
 rowO : ∀ g, vo.ownBlock = some g → w.heap.size ≤ g
structure RMx (Shun : Nat → Prop) (w : World) (ys : List Int) (vo : Value) (bx : Nat) (y : Int) (w₁ : World) : Prop where
 j : RMp Shun w ys vo w₁
 cell : w₁.cell? ⟨bx, 0, none⟩ = some (.int .i64 y)
 low : ¬ Shun bx
section
variable {Shun : Nat → Prop} {w w₁ w₂ : World} {b₀ : Frame} {a₀ : Act} {ops₀ : Array Oper} {i₀ : Nat} {rest₀ : List Nat} {k₀ : List Item} {cs : List Frame} {fa : Option Addr} {cap i bx : Nat} {ns ys : List Int} {x y c : Int} {vo : Value}
theorem RMp.steady : Steady (RMp Shun w ys vo) := fun _w d h => ⟨h.keep.at d, h.row, h.rowO⟩
theorem RMx.steady : Steady (RMx Shun w ys vo bx y) := fun w d h => ⟨RMp.steady w d h.j, h.cell, h.low⟩
theorem RMx.new (h : RMp Shun w ys vo w₁) : RMx Shun w ys vo w₁.heap.size y (w₁.alloc (.cells #[.int .i64 y] 3)) := by
 have hn := heap_alloc_new w₁ (Obj.cells #[Value.int .i64 y] 3)
 exact ⟨⟨h.keep.alloc _, ownsRow_of h.row fun g hg => heap_alloc_old _ _ g (h.row.lt g hg).2, h.rowO⟩, by unfold World.cell?; rw [hn]; rfl, fun hs => Nat.lt_irrefl _ (h.keep.s66.lt hs)⟩
theorem RMx.appended {vo' : Value} (h : RMx Shun w ys vo bx y w₁) (hgr : w₁.grownBy w₂ vo.ownBlock) (hrow : w₂.ownsRow 0 3 1 vo' (ys.length + 1) (ints ys ++ [.int .i64 y])) (hown : ∀ g, vo'.ownBlock = some g → vo.ownBlock = some g ∨ (w₁.heap.size ≤ g ∧ g < w₂.heap.size)) : RMp Shun w (ys ++ [y]) vo' w₂ := by
 refine ⟨h.j.keep.grown hgr h.j.row (by decide) h.j.rowO, by simpa using hrow, fun g hg => ?_⟩
 rcases hown g hg with e | e
 · exact h.j.rowO g e
 · exact Nat.le_trans h.j.keep.out.size e.1
end
def chainL (codes ns : List Int) : List Int := codes.foldl (fun l c => l.map (applyP c)) ns
structure U17 (fc : Option Addr) (nc cc : Nat) (vo : Value) (i : Nat) (U : Array Value) : Prop where
 size : U.size = 23
 t0 : U[0]? = some (.slice fc nc cc)
 t5 : U[5]? = some vo
 t6 : U[6]? = some (.int .i64 i)
section
variable {Shun : Nat → Prop} {w w₁ w₂ : World} {b₀ : Frame} {a₀ : Act} {ops₀ : Array Oper} {i₀ : Nat} {rest₀ : List Nat} {k₀ : List Item} {cs : List Frame} {fa fc : Option Addr} {cap cc i bx : Nat} {ns ys codes : List Int} {x y c : Int} {vo : Value}
theorem RMp.form (h : RMp Shun w ys vo w₁) : ∃ fa cap, vo = .slice fa ys.length cap ∧ w₁.ownsRow 0 3 1 (.slice fa ys.length cap) ys.length (ints ys) := by
 have hr := h.row
 rcases hr.2 with ⟨e, h0⟩ | ⟨g, c, cur, e, _⟩
 · refine ⟨none, 0, by rw [h0]; exact e, ?_⟩
   rw [e] at hr
   rw [show Value.slice none ys.length 0 = .slice none 0 0 by rw [h0]]
   exact hr
 · exact ⟨_, c, e, by rw [← e]; exact hr⟩
end
end Go.Proofs.Ytblpmdolclalnaa
namespace Go.Proofs.Ytblpmdolclalnaa
open Go.Conc
open Go.ConcN (WgLive)
section
variable {Shun : Nat → Prop} {w w₁ : World} {b₀ : Frame} {a₀ : Act} {ops₀ : Array Oper} {i₀ : Nat} {rest₀ : List Nat} {k₀ : List Item} {cs : List Frame} {fa : Option Addr} {cap kb kl K : Nat} {ns : List Int} {c : Int}
theorem boxA_firm {own : Nat → Prop} {Got : Cells} {Rd : Nat → Prop} {Wg : Nat} (h : Rd kb) : Firm own Got Rd Wg (BoxA kb c) := fun _w _w₁ r hb => (r.cell kb 0 (cell_lt hb) (.inr (.inr h))).trans hb
theorem s66_of {S : Nat → Prop} {Wg : Nat} (h66 : S66 Shun w) (ho : Out w.heap.size w (fun b _ => Shun b) w₁) (hl : WgLive 66 Wg w₁) (hs : ∀ b, S b → Shun b ∨ b = Wg) : S66 S w₁ := fun b hb => by
 rcases hs b hb with x | rfl
 · obtain ⟨cs, hc⟩ := h66 b x
   obtain ⟨c', hc', _⟩ := ho.form b cs 66 (0, 0) (h66.lt x) hc
   exact ⟨c', hc'⟩
 · obtain ⟨st, sm, hl⟩ := hl
   exact ⟨_, hl⟩
def mapM (Shun : Nat → Prop) (w : World) (cs : List Frame) (K kb kl : Nat) (c : Int) (ns : List Int) : MpM where
 q := { K := K, n := ns.length, c0 := w.heap.size + 1, Wg := w.heap.size + 3, nfuel := 80, fv := fnV kb, phi := applyP c, Xf := BoxA kb c, Sx := fun b => b = kb, okN := fun _ => True }
 L := Lay.none
 In := fun _ _ _ _ _ _ => False
 it := seqIt kl (ints ns).length
 cs := cs
 Shun := Shun
 n0 := w.heap.size
 w0 := w
 inV := seqV kl
 xs := ints ns
 e8 := w.heap.size + 2
 e4 := w.heap.size
theorem mapM_off {b : Nat} : (mapM Shun w cs K kb kl c ns).Off b ↔ Shun b := by
 refine ⟨fun h => ?_, fun h => .inl (.inl h)⟩
 rcases h with (h | ⟨_, h⟩) | h
 · exact h
 · exact h.elim
 · cases h
theorem mapM_ok (hc : 0 ≤ c ∧ c < 256) (hK1 : 0 < K) (hK : K ≤ 16) (hn : ns.length ≤ 900000) (hf : Cel Shun kb (.int .u8 c) w) (hi : Cel Shun kl (.slice fa ns.length cap) w) (hL : Ls Shun fa (ints ns) w) : MpMOK (mapM Shun w cs K kb kl c ns) where
 q := ⟨⟨fun w h b e => by subst e; exact cell_lt h, fun w b o v hb h => (cell?_eq (setCell_ne (fun e : kb = b => hb (show b = kb from e.symm))) 0).trans h⟩, fun own Got Rd hs => boxA_firm (hs _ rfl)⟩
 lay := Lay.none_ok _
 kid := kid_none _ fun own Got Rd n hs => call30P (hs _ rfl) hc
 few := hK
 one := hK1
 wg := Nat.le_add_right _ _
 c0 := Nat.le_add_right _ _
 e8 := Nat.le_add_right _ _
 e4 := Nat.le_refl _
 sx b hb := by
   have hb' : b = kb := hb
   subst hb'
   exact ⟨cell_lt hf.2, fun h => hf.1 (mapM_off.1 h)⟩
 ab _ h := h.elim fun _ h => h.elim
 j0 _ _ _ _ _ := trivial
 cel _ _ h := h.elim
 v0 _ h := by cases h
 x0 w' h _ := (h kb 0 rfl).trans hf.2
 it := seqIt_ok (kl := kl) (sa := fa) (cap := cap) ⟨rfl, rfl, ⟨cell_lt hi.2, fun h => hi.1 (mapM_off.1 h)⟩, by show w.cell? _ = _; rw [hi.2]; simp [mapM], fun i v hv => by
   obtain ⟨bl, o, h1, h2, h3⟩ := hL i v hv
   exact ⟨bl, o, h1, cell_lt h3, fun h => h2 (mapM_off.1 h), h3⟩, by simp [mapM]; omega, fun v hv => by
   obtain ⟨n, _, rfl⟩ := List.mem_map.1 hv
   exact ⟨n, rfl⟩⟩
 xs := ⟨by simp [mapM], hn, fun v hv => by
   obtain ⟨n, _, rfl⟩ := List.mem_map.1 hv
   exact ⟨n, rfl⟩, fun _ _ => trivial⟩
def Got (w' : World) (v : Value) (ys : List Int) : Prop := ∃ fa cap, v = .slice fa ys.length cap ∧ w'.ownsRow 0 3 1 (.slice fa ys.length cap) ys.length (ints ys)
theorem got_of {w' : World} {v : Value} {ys : List Int} (hr : w'.ownsRow 0 3 1 v ys.length (ints ys)) : Got w' v ys := by
 rcases hr.2 with ⟨e, h0⟩ | ⟨g, c, cur, e, _⟩
 · refine ⟨none, 0, by rw [h0]; exact e, ?_⟩
   rw [e] at hr
   rw [show Value.slice none ys.length 0 = .slice none 0 0 by rw [h0]]
   exact hr
 · exact ⟨_, c, e, by rw [← e]; exact hr⟩
theorem map_law (h66 : S66 Shun w) (hc : 0 ≤ c ∧ c < 256) (hK1 : 0 < K) (hK : K ≤ 16) (hn : ns.length ≤ 900000) (hf : Cel Shun kb (.int .u8 c) w) (hi : Cel Shun kl (.slice fa ns.length cap) w) (hL : Ls Shun fa (ints ns) w) :
   Lone Try.prog w.heap.size (fun S g w' => Keep Shun w S w' ∧ ∃ v, Got w' v (ns.map (applyP c)) ∧ g = G (b₀.at (a₀.put ((ops₀[i₀]?).bind (·.dst)) (.tuple #[v, .int .i64 0])) (.inRegion ops₀ rest₀ :: k₀)) cs) Shun
     (G ((base 11).at ⟨#[.int .i64 K, fnV kb, seqV kl, undef, undef, undef, undef, undef, undef, undef, undef, undef, undef, undef, undef, undef, undef, undef, undef, undef, undef, undef, undef, undef, undef, undef, undef, undef, undef, undef, undef, undef, undef, undef, undef, undef, undef, undef, undef, undef, undef, undef, undef, undef, undef, undef, undef, undef, undef, undef, undef, undef, undef, undef, undef, undef, undef, undef, undef, undef, undef, undef, undef, undef], []⟩ [.code bodyM]) (b₀.at a₀ (.inRegion ops₀ (i₀ :: rest₀) :: k₀) :: cs)) w := by
 have hm := mapM_ok (cs := (b₀.at a₀ (.inRegion ops₀ (i₀ :: rest₀) :: k₀) :: cs)) hc hK1 hK hn hf hi hL
 refine (map_call hm rfl rfl rfl rfl rfl rfl (fun b hb => h66.lt hb) rfl rfl).imp fun S g w' _ h => ?_
 obtain ⟨hS, v, hR, rfl⟩ := h
 have ho : Out w.heap.size w (fun b _ => Shun b) w' := hR.out.less fun b x _ h => mapM_off.1 h
 refine ⟨⟨fun b hb => (hS b hb).imp id fun e => by rw [e]; show w.heap.size ≤ w.heap.size + 3; omega, ho, s66_of h66 ho hR.live hS⟩, v, got_of ?_, rfl⟩
 have hrow := hR.row
 have e1 : (mapM Shun w (b₀.at a₀ (.inRegion ops₀ (i₀ :: rest₀) :: k₀) :: cs) K kb kl c ns).xs.length = (ns.map (applyP c)).length := by simp [mapM]
 have e2 : (mapM Shun w (b₀.at a₀ (.inRegion ops₀ (i₀ :: rest₀) :: k₀) :: cs) K kb kl c ns).xs.map (mapV (mapM Shun w (b₀.at a₀ (.inRegion ops₀ (i₀ :: rest₀) :: k₀) :: cs) K kb kl c ns).q.phi) = ints (ns.map (applyP c)) := by simp [mapM, mapV, Function.comp_def]
 rw [e1, e2] at hrow
 exact hrow
theorem map_few (h66 : S66 Shun w) {k : Int} {inV : Value} (hk : k < 1 ∨ 16 < k) :
   Lone Try.prog w.heap.size (fun S g w' => Keep Shun w S w' ∧ g = G (b₀.at (a₀.put ((ops₀[i₀]?).bind (·.dst)) (.tuple #[.slice none 0 0, .int .i64 1])) (.inRegion ops₀ rest₀ :: k₀)) cs) Shun
     (G ((base 11).at ⟨#[.int .i64 k, fnV kb, inV, undef, undef, undef, undef, undef, undef, undef, undef, undef, undef, undef, undef, undef, undef, undef, undef, undef, undef, undef, undef, undef, undef, undef, undef, undef, undef, undef, undef, undef, undef, undef, undef, undef, undef, undef, undef, undef, undef, undef, undef, undef, undef, undef, undef, undef, undef, undef, undef, undef, undef, undef, undef, undef, undef, undef, undef, undef, undef, undef, undef, undef], []⟩ [.code bodyM]) (b₀.at a₀ (.inRegion ops₀ (i₀ :: rest₀) :: k₀) :: cs)) w := by
 have hfr : Fresh w.heap.size w (fun b _ => Shun b) [] w := ⟨Out.refl (Nat.le_refl _), by simp, fun i o h => by simp at h⟩
 refine Lone.goes (n := 60) (mp_size (fun b hb => h66.lt hb) hk hfr fun w' hF => ⟨⟨fun _ => .inl, hF.out, fun b hb => ?_⟩, rfl⟩)
 obtain ⟨cs, hc⟩ := h66 b hb
 obtain ⟨c', hc', _⟩ := hF.out.form b cs 66 (0, 0) (h66.lt hb) hc
 exact ⟨c', hc'⟩
/-! ### Chain -/
variable {codes : List Int} {kf : Nat → Nat} {ff : Option Addr} {capf : Nat}
def chainM (Shun : Nat → Prop) (w : World) (cs : List Frame) (kl : Nat) (kf : Nat → Nat) (codes ns : List Int) (fsV : Value) : ChM where
 q := { nf := codes.length, n := ns.length, c0 := w.heap.size + 1, Wg := w.heap.size, nfuel := 80, fv := fun s => fnV (kf s), phi := fun s => applyP (codes.getD s 0), X := fun _ _ _ s _ w => s < codes.length ∧ BoxA (kf s) (codes.getD s 0) w, need := fun _ _ Rd s => s < codes.length → Rd (kf s) }
 cs := cs
 Shun := Shun
 n0 := w.heap.size
 w0 := w
 inV := seqV kl
 fsV := fsV
 gv := fun _ _ _ => False
 rdx := fun s b => s < codes.length ∧ b = kf s
 xs := ints ns
def FnsAt (Shun : Nat → Prop) (ff : Option Addr) (kf : Nat → Nat) (n : Nat) (w : World) : Prop := ∀ s, s < n → ∃ bf o, ff = some ⟨bf, o, none⟩ ∧ ¬ Shun bf ∧ w.cell? ⟨bf, o + s, none⟩ = some (fnV (kf s))
theorem codes_at {codes : List Int} (hc : ∀ c ∈ codes, 0 ≤ c ∧ c < 256) {s : Nat} (hs : s < codes.length) : 0 ≤ codes.getD s 0 ∧ codes.getD s 0 < 256 := by
 rw [List.getD_eq_getElem?_getD, List.getElem?_eq_getElem hs]
 exact hc _ (List.getElem_mem hs)
theorem chainM_ok (hc : ∀ c ∈ codes, 0 ≤ c ∧ c < 256) (hK : codes.length ≤ 16) (hn : ns.length ≤ 900000) (hf : ∀ s, s < codes.length → Cel Shun (kf s) (.int .u8 (codes.getD s 0)) w) (hfs : FnsAt Shun ff kf codes.length w) (hi : Cel Shun kl (.slice fa ns.length cap) w) (hL : Ls Shun fa (ints ns) w) : ChMOK (chainM Shun w cs kl kf codes ns (.slice ff codes.length capf)) where
 q := {
   held := fun _ => .inr ⟨_, _, _, rfl⟩
   small := hn
   firm := fun own Got Rd s xs hneed w w₁ r h => ⟨h.1, boxA_firm (hneed h.1) w w₁ r h.2⟩
   calls := fun own Got Rd s xs x hneed _ b a ops i rest k cs o y z ats w h1 h2 h3 h4 h5 h6 h7 h8 =>
     (call30 (hneed h8.1) (codes_at hc h8.1) b a ops i rest k cs o y z ats w h1 h2 h3 h4 h5 h6 h7 h8.2).imp fun g w' h => ⟨h.1, h.2.1, ⟨h8.1, h.2.2.1⟩, h.2.2.2⟩
   chan := fun own Got Rd s xs d k w hneed hd h => ⟨h.1, by
     have h2 : w.cell? ⟨kf s, 0, none⟩ = _ := h.2
     have hne : kf s ≠ d := fun e => by rw [e] at h2; simp [World.cell?, hd] at h2
     have e : w.setChan d 0 #[] true k k false = w.putObj d (.chan 0 #[] true k k false) := rfl
     show World.cell? _ _ = _
     rw [e]
     exact (cell?_eq (World.putObj_heap_other hne) 0).trans h2⟩ }
 few := hK
 wg := Nat.le_refl _
 c0 := Nat.le_add_right _ _
 gvB _ _ _ h := h.elim
 rdB s b h := by
   obtain ⟨hs, rfl⟩ := h
   exact ⟨cell_lt (hf s hs).2, (hf s hs).1⟩
 apart _ _ _ _ h := h.elim
 apart' _ _ _ _ _ h := h.elim
 need own Got Rd s _ h hs := h _ ⟨hs, rfl⟩
 x0 own Got Rd s w' hs h _ := ⟨hs, (h (kf s) 0 (.inr ⟨hs, rfl⟩)).trans (hf s hs).2⟩
 fs := ⟨ff, capf, rfl, fun s hs => by
   obtain ⟨bf, o, h1, h2, h3⟩ := hfs s hs
   exact ⟨bf, o, h1, cell_lt h3, h2, fun _ _ h => h, h3⟩⟩
 fn s _ := ⟨_, _, _, rfl⟩
 it := ⟨kl, fa, cap, rfl, ⟨cell_lt hi.2, hi.1, fun _ _ h => h⟩, by show w.cell? _ = _; rw [hi.2]; simp [chainM], fun i v hv => by
   obtain ⟨bl, o, h1, h2, h3⟩ := hL i v hv
   exact ⟨bl, o, h1, cell_lt h3, h2, fun _ _ h => h, h3⟩⟩
 xs := ⟨by simp [chainM], fun v hv => by
   obtain ⟨n, _, rfl⟩ := List.mem_map.1 hv
   exact ⟨n, rfl⟩⟩
theorem compI_take (codes : List Int) : ∀ (s : Nat) (ns : List Int), s ≤ codes.length → ns.map (compI (fun s => applyP (codes.getD s 0)) s) = chainL (codes.take s) ns := by
 intro s
 induction s with
 | zero => intro ns _; simp [compI, chainL]
 | succ s ih =>
   intro ns hs
   have hv : codes[s]? = some codes[s] := List.getElem?_eq_getElem (by omega)
   have e : chainL (codes.take (s + 1)) ns = (chainL (codes.take s) ns).map (applyP codes[s]) := by
     unfold chainL
     rw [List.take_add_one, hv, List.foldl_append]
     rfl
   rw [e, ← ih ns (by omega), List.map_map]
   refine List.map_congr_left fun x _ => ?_
   show applyP (codes.getD s 0) _ = _
   rw [List.getD_eq_getElem?_getD, hv]
   rfl
theorem chain_law (h66 : S66 Shun w) (hc : ∀ c ∈ codes, 0 ≤ c ∧ c < 256) (hK : codes.length ≤ 16) (hn : ns.length ≤ 900000) (hf : ∀ s, s < codes.length → Cel Shun (kf s) (.int .u8 (codes.getD s 0)) w) (hfs : FnsAt Shun ff kf codes.length w) (hi : Cel Shun kl (.slice fa ns.length cap) w) (hL : Ls Shun fa (ints ns) w) :
   Lone Try.prog w.heap.size (fun S g w' => Keep Shun w S w' ∧ ∃ v, Got w' v (chainL codes ns) ∧ g = G (b₀.at (a₀.put ((ops₀[i₀]?).bind (·.dst)) (.tuple #[v, .int .i64 0])) (.inRegion ops₀ rest₀ :: k₀)) cs) Shun
     (G ((base 16).at ⟨#[seqV kl, .slice ff codes.length capf, undef, undef, undef, undef, undef, undef, undef, undef, undef, undef, undef, undef, undef, undef, undef, undef, undef, undef, undef, undef, undef, undef, undef, undef, undef, undef, undef, undef, undef, undef, undef, undef, undef, undef, undef, undef, undef, undef, undef, undef, undef, undef, undef, undef, undef, undef, undef], []⟩ [.code body16]) (b₀.at a₀ (.inRegion ops₀ (i₀ :: rest₀) :: k₀) :: cs)) w := by
 have hm := chainM_ok (cs := (b₀.at a₀ (.inRegion ops₀ (i₀ :: rest₀) :: k₀) :: cs)) (capf := capf) hc hK hn hf hfs hi hL
 refine (chain_call hm rfl rfl rfl rfl (fun b hb => h66.lt hb) (fun _ _ _ _ h => h) (fun own Got Rd s xs w d ds hd h => ⟨h.1, ?_⟩)).imp fun S g w' _ h => ?_
 · have h2 : w.cell? ⟨kf s, 0, none⟩ = _ := h.2
   have hne : kf s ≠ d := fun e => by rw [e] at h2; simp [World.cell?, hd] at h2
   exact (cell?_eq (World.putObj_heap_other hne) 0).trans h2
 · obtain ⟨hS, v, hR, rfl⟩ := h
   have ho : Out w.heap.size w (fun b _ => Shun b) w' := hR.out.less fun b x _ hx => hx.elim id fun ⟨_, _, h⟩ => h.elim
   refine ⟨⟨fun b hb => (hS b hb).imp id fun e => by rw [e]; exact Nat.le_refl _, ho, s66_of h66 ho hR.live hS⟩, v, got_of ?_, rfl⟩
   have hrow := hR.row
   have e2 : (chainM Shun w (b₀.at a₀ (.inRegion ops₀ (i₀ :: rest₀) :: k₀) :: cs) kl kf codes ns (.slice ff codes.length capf)).xs.map (PP.comp (chainM Shun w (b₀.at a₀ (.inRegion ops₀ (i₀ :: rest₀) :: k₀) :: cs) kl kf codes ns (.slice ff codes.length capf)).q.pp.phi (chainM Shun w (b₀.at a₀ (.inRegion ops₀ (i₀ :: rest₀) :: k₀) :: cs) kl kf codes ns (.slice ff codes.length capf)).q.nf) = ints (chainL codes ns) := by
     have h := compI_take codes codes.length ns (Nat.le_refl _)
     rw [List.take_length] at h
     rw [← h]
     simp only [ints, List.map_map]
     show List.map _ (List.map _ ns) = _
     rw [List.map_map]
     exact List.map_congr_left fun x _ => comp_int _ _ x
   have e1 : (chainM Shun w (b₀.at a₀ (.inRegion ops₀ (i₀ :: rest₀) :: k₀) :: cs) kl kf codes ns (.slice ff codes.length capf)).xs.length = (chainL codes ns).length := by
     have h := compI_take codes codes.length ns (Nat.le_refl _)
     rw [List.take_length] at h
     rw [← h]
     simp [chainM]
   rw [e1, e2] at hrow
   exact hrow
end
end Go.Proofs.Ytblpmdolclalnaa
