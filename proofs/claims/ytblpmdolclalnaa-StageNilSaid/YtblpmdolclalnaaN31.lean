/- The law StageNil: a round of its reading loop. Made by gen_nid.py. The law StageNil, walked whole, goroutine 0 coming to its return with true. What every row's proof of this seat shares: slices among the arguments; the last step of a law that makes memory and turns none of the arguments'. -/
import Derived.Test.YtblpmdolclalnaaN24
import Derived.Test.YtblpmdolclalnaaN30
import Derived.Test.YtblpmdolclalnaaRows
import Derived.ProofKit
import Derived.OpenShut
import Derived.ChangeSlices
import Derived.SliceStrings
import Derived.WideShapes
import Derived.Conc.LeavingOf
import Derived.Conc.Holds
set_option maxHeartbeats 16000000
set_option linter.unusedSimpArgs false
set_option linter.unusedVariables false
namespace Go.Proofs.Ytblpmdolclalnaa
open Go.Conc Go.RowKit Go.Conc.Lib Go.ConcR.Gen Go.ConcN.Gen
noncomputable def ops7 : Array Oper := cO (cF (cS (cI (cF (cS (cS lp7))))))
structure U7 (fb fa : Option Addr) (n cb ca i : Nat) (U : Array Value) : Prop where
 size : U.size = 123
 t0 : U[0]? = some (.slice fb n cb)
 t15 : U[15]? = some (.slice fa n ca)
 t102 : U[102]? = some (.int .i64 n)
 t103 : U[103]? = some (.int .i64 i)
def val7 (ba oa na ca bb ob cb i : Nat) (x : Int) : Nat → Value
 | 0 => .slice (some ⟨ba, oa, none⟩) na ca
 | 1 => .int .i64 i
 | 2 => .pointer (some ⟨ba, oa + i, none⟩)
 | 3 => .string (chrS x)
 | 4 => .slice (some ⟨bb, ob, none⟩) na cb
 | 5 => .int .i64 i
 | 6 => .pointer (some ⟨bb, ob + i, none⟩)
 | 7 => .int .i64 x
 | 8 => .int .i64 (x.tmod 26)
 | 9 => .int .i64 (IntKind.i64.wrap (x.tmod 26 + 26))
 | 10 => .int .i64 ((IntKind.i64.wrap (x.tmod 26 + 26)).tmod 26)
 | 11 => .int .i64 (IntKind.i64.wrap (97 + (IntKind.i64.wrap (x.tmod 26 + 26)).tmod 26))
 | 12 => .int .i32 (chrI x)
 | 13 => .string (chrS x)
 | 14 => .bool false
 | _ => undef
theorem op7_0 : ops7[0]? = some { dst := some 106, op := Go.Op.move (Go.Operand.tmp 15), type := 44, pos := "law.go:187", after := #[], guard := none } := by kernel_rfl
theorem op7_1 : ops7[1]? = some { dst := some 107, op := Go.Op.move (Go.Operand.tmp 17), type := 3, pos := "law.go:187", after := #[], guard := none } := by kernel_rfl
theorem op7_2 : ops7[2]? = some { dst := some 108, op := Go.Op.indexAddr 44 (Go.Operand.tmp 106) (Go.Operand.tmp 107), type := 0, pos := "law.go:187", after := #[{ on := 0, ground := Go.Ground.data }, { on := 1, ground := Go.Ground.data }], guard := none } := by kernel_rfl
theorem op7_3 : ops7[3]? = some { dst := some 109, op := Go.Op.load 9 (Go.Operand.tmp 108), type := 9, pos := "law.go:187", after := #[{ on := 2, ground := Go.Ground.data }], guard := none } := by kernel_rfl
theorem op7_4 : ops7[4]? = some { dst := some 110, op := Go.Op.move (Go.Operand.tmp 0), type := 22, pos := "law.go:187", after := #[], guard := none } := by kernel_rfl
theorem op7_5 : ops7[5]? = some { dst := some 111, op := Go.Op.move (Go.Operand.tmp 17), type := 3, pos := "law.go:187", after := #[], guard := none } := by kernel_rfl
theorem op7_6 : ops7[6]? = some { dst := some 112, op := Go.Op.indexAddr 22 (Go.Operand.tmp 110) (Go.Operand.tmp 111), type := 0, pos := "law.go:187", after := #[{ on := 4, ground := Go.Ground.data }, { on := 5, ground := Go.Ground.data }], guard := none } := by kernel_rfl
theorem op7_7 : ops7[7]? = some { dst := some 113, op := Go.Op.load 3 (Go.Operand.tmp 112), type := 3, pos := "law.go:187", after := #[{ on := 6, ground := Go.Ground.data }], guard := none } := by kernel_rfl
theorem op7_8 : ops7[8]? = some { dst := some 114, op := Go.Op.binOp Go.BinOp.rem 3 (Go.Operand.tmp 113) (Go.Operand.const (Go.Value.int Go.IntKind.i64 26)) 3, type := 3, pos := "law.go:187", after := #[{ on := 7, ground := Go.Ground.data }], guard := none } := by kernel_rfl
theorem op7_9 : ops7[9]? = some { dst := some 115, op := Go.Op.binOp Go.BinOp.add 3 (Go.Operand.tmp 114) (Go.Operand.const (Go.Value.int Go.IntKind.i64 26)) 3, type := 3, pos := "law.go:187", after := #[{ on := 8, ground := Go.Ground.data }], guard := none } := by kernel_rfl
theorem op7_10 : ops7[10]? = some { dst := some 116, op := Go.Op.binOp Go.BinOp.rem 3 (Go.Operand.tmp 115) (Go.Operand.const (Go.Value.int Go.IntKind.i64 26)) 3, type := 3, pos := "law.go:187", after := #[{ on := 9, ground := Go.Ground.data }], guard := none } := by kernel_rfl
theorem op7_11 : ops7[11]? = some { dst := some 117, op := Go.Op.binOp Go.BinOp.add 3 (Go.Operand.const (Go.Value.int Go.IntKind.i64 97)) (Go.Operand.tmp 116) 3, type := 3, pos := "law.go:187", after := #[{ on := 10, ground := Go.Ground.data }], guard := none } := by kernel_rfl
theorem op7_12 : ops7[12]? = some { dst := some 118, op := Go.Op.convert 3 21 (Go.Operand.tmp 117), type := 21, pos := "law.go:187", after := #[{ on := 11, ground := Go.Ground.data }], guard := none } := by kernel_rfl
theorem op7_13 : ops7[13]? = some { dst := some 119, op := Go.Op.convert 21 9 (Go.Operand.tmp 118), type := 9, pos := "law.go:187", after := #[{ on := 12, ground := Go.Ground.data }], guard := none } := by kernel_rfl
theorem op7_14 : ops7[14]? = some { dst := some 120, op := Go.Op.binOp Go.BinOp.neq 9 (Go.Operand.tmp 109) (Go.Operand.tmp 119) 9, type := 4, pos := "law.go:187", after := #[{ on := 3, ground := Go.Ground.data }, { on := 13, ground := Go.Ground.data }], guard := none } := by kernel_rfl
theorem d7 {o : Oper} {i : Nat} (h : ops7[i]? = some o) : i < 15 := by
 have := (Array.getElem?_eq_some_iff.1 h).1
 have e : ops7.size = 15 := by kernel_rfl
 omega
section
variable {Shun : Nat → Prop} {w w₁ : World} {cs : List Frame} {fa fb : Option Addr} {ca cb i ba oa bb ob na : Nat} {ns : List Int} {x : Int}
set_option maxRecDepth 100000 in
theorem quiet7 {T0 : Array Value} (hT : U7 (some ⟨bb, ob, none⟩) (some ⟨ba, oa, none⟩) na cb ca i T0) (t17 : T0[17]? = some (.int .i64 i)) (hi : i < na) (hsa : ¬ Shun ba) (hsb : ¬ Shun bb) (hca : w.cell? ⟨ba, oa + i, none⟩ = some (.string (chrS x))) (hcb : w.cell? ⟨bb, ob + i, none⟩ = some (.int .i64 x)) :
   QuietR Try.prog (base 7).fn ops7 T0 [] (fun k => 106 + k) (val7 ba oa na ca bb ob cb i x) (AtRel w) (SD Shun) := by
 have e9 : ops7.size = 15 := by kernel_rfl
 refine ⟨fun a b _ _ h => by omega, fun i hi => by rw [hT.size]; omega, fun k o h => ?_, fun k o h => ?_, fun k o T w₁ h hF hdep hbase => ?_⟩
 · have hk := d7 h
   have : k = 0 ∨ k = 1 ∨ k = 2 ∨ k = 3 ∨ k = 4 ∨ k = 5 ∨ k = 6 ∨ k = 7 ∨ k = 8 ∨ k = 9 ∨ k = 10 ∨ k = 11 ∨ k = 12 ∨ k = 13 ∨ k = 14 := by omega
   rcases this with rfl | rfl | rfl | rfl | rfl | rfl | rfl | rfl | rfl | rfl | rfl | rfl | rfl | rfl | rfl <;> (first | rw [op7_0] at h | rw [op7_1] at h | rw [op7_2] at h | rw [op7_3] at h | rw [op7_4] at h | rw [op7_5] at h | rw [op7_6] at h | rw [op7_7] at h | rw [op7_8] at h | rw [op7_9] at h | rw [op7_10] at h | rw [op7_11] at h | rw [op7_12] at h | rw [op7_13] at h | rw [op7_14] at h) <;> (cases h; exact ⟨rfl, rfl⟩)
 · have hk := d7 h
   have : k = 0 ∨ k = 1 ∨ k = 2 ∨ k = 3 ∨ k = 4 ∨ k = 5 ∨ k = 6 ∨ k = 7 ∨ k = 8 ∨ k = 9 ∨ k = 10 ∨ k = 11 ∨ k = 12 ∨ k = 13 ∨ k = 14 := by omega
   rcases this with rfl | rfl | rfl | rfl | rfl | rfl | rfl | rfl | rfl | rfl | rfl | rfl | rfl | rfl | rfl <;> (first | rw [op7_0] at h | rw [op7_1] at h | rw [op7_2] at h | rw [op7_3] at h | rw [op7_4] at h | rw [op7_5] at h | rw [op7_6] at h | rw [op7_7] at h | rw [op7_8] at h | rw [op7_9] at h | rw [op7_10] at h | rw [op7_11] at h | rw [op7_12] at h | rw [op7_13] at h | rw [op7_14] at h) <;> (cases h; intro e he; simp at he; try (rcases he with rfl | rfl <;> simp); try (subst he; simp))
 · have hk := d7 h
   have b0 := (hbase 0 fun k hk => by omega).trans hT.t0
   have b15 := (hbase 15 fun k hk => by omega).trans hT.t15
   have b17 := (hbase 17 fun k hk => by omega).trans t17
   have ha : w₁.cell? ⟨ba, oa + i, none⟩ = some (.string (chrS x)) := by obtain ⟨d, rfl⟩ := hF; exact hca
   have hb : w₁.cell? ⟨bb, ob + i, none⟩ = some (.int .i64 x) := by obtain ⟨d, rfl⟩ := hF; exact hcb
   have : k = 0 ∨ k = 1 ∨ k = 2 ∨ k = 3 ∨ k = 4 ∨ k = 5 ∨ k = 6 ∨ k = 7 ∨ k = 8 ∨ k = 9 ∨ k = 10 ∨ k = 11 ∨ k = 12 ∨ k = 13 ∨ k = 14 := by omega
   have ia : (0 : Int) ≤ (i : Int) ∧ (i : Int) < (na : Int) := by omega
   have nil : ∀ (es : Array Event), (∀ e ∈ es, False) → SD Shun w₁ w₁ es := fun es h => g_idle (fun w => sd_idle w) h
   rcases this with rfl | rfl | rfl | rfl | rfl | rfl | rfl | rfl | rfl | rfl | rfl | rfl | rfl | rfl | rfl
   · rw [op7_0] at h
     cases h
     constructor
     · simp [execOp, go_sem, val7, b15]
     · refine nil _ fun ev hev => ?_
       have hm := mem_listed hev
       simp [execOp, go_sem, b15] at hm
   · rw [op7_1] at h
     cases h
     constructor
     · simp [execOp, go_sem, val7, b17]
     · refine nil _ fun ev hev => ?_
       have hm := mem_listed hev
       simp [execOp, go_sem, b17] at hm
   · rw [op7_2] at h
     cases h
     have e0 : T[106]? = some (.slice (some ⟨ba, oa, none⟩) na ca) := hdep ⟨0, .data⟩ (by simp) rfl
     have e1 : T[107]? = some (.int .i64 i) := hdep ⟨1, .data⟩ (by simp) rfl
     constructor
     · simp [execOp, go_sem, val7, e0, e1, hi, ia]
     · refine nil _ fun ev hev => ?_
       have hm := mem_listed hev
       simp [execOp, go_sem, e0, e1, hi, ia] at hm
   · rw [op7_3] at h
     cases h
     have e2 : T[108]? = some (.pointer (some ⟨ba, oa + i, none⟩)) := hdep ⟨2, .data⟩ (by simp) rfl
     constructor
     · simp [execOp, go_sem, val7, e2, ha]
     · refine sd_read fun ev hev => ?_
       have hm := mem_listed hev
       simp [execOp, go_sem, e2, ha] at hm
       exact ⟨_, _, _, hm, hsa, cell_lt ha⟩
   · rw [op7_4] at h
     cases h
     constructor
     · simp [execOp, go_sem, val7, b0]
     · refine nil _ fun ev hev => ?_
       have hm := mem_listed hev
       simp [execOp, go_sem, b0] at hm
   · rw [op7_5] at h
     cases h
     constructor
     · simp [execOp, go_sem, val7, b17]
     · refine nil _ fun ev hev => ?_
       have hm := mem_listed hev
       simp [execOp, go_sem, b17] at hm
   · rw [op7_6] at h
     cases h
     have e4 : T[110]? = some (.slice (some ⟨bb, ob, none⟩) na cb) := hdep ⟨4, .data⟩ (by simp) rfl
     have e5 : T[111]? = some (.int .i64 i) := hdep ⟨5, .data⟩ (by simp) rfl
     constructor
     · simp [execOp, go_sem, val7, e4, e5, hi, ia]
     · refine nil _ fun ev hev => ?_
       have hm := mem_listed hev
       simp [execOp, go_sem, e4, e5, hi, ia] at hm
   · rw [op7_7] at h
     cases h
     have e6 : T[112]? = some (.pointer (some ⟨bb, ob + i, none⟩)) := hdep ⟨6, .data⟩ (by simp) rfl
     constructor
     · simp [execOp, go_sem, val7, e6, hb]
     · refine sd_read fun ev hev => ?_
       have hm := mem_listed hev
       simp [execOp, go_sem, e6, hb] at hm
       exact ⟨_, _, _, hm, hsb, cell_lt hb⟩
   · rw [op7_8] at h
     cases h
     have e7 : T[113]? = some (.int .i64 x) := hdep ⟨7, .data⟩ (by simp) rfl
     constructor
     · simp [execOp, go_sem, val7, e7]
     · refine nil _ fun ev hev => ?_
       have hm := mem_listed hev
       simp [execOp, go_sem, e7] at hm
   · rw [op7_9] at h
     cases h
     have e8 : T[114]? = some (.int .i64 (x.tmod 26)) := hdep ⟨8, .data⟩ (by simp) rfl
     constructor
     · simp [execOp, go_sem, val7, e8]
     · refine nil _ fun ev hev => ?_
       have hm := mem_listed hev
       simp [execOp, go_sem, e8] at hm
   · rw [op7_10] at h
     cases h
     have e9 : T[115]? = some (.int .i64 (IntKind.i64.wrap (x.tmod 26 + 26))) := hdep ⟨9, .data⟩ (by simp) rfl
     constructor
     · simp [execOp, go_sem, val7, e9]
     · refine nil _ fun ev hev => ?_
       have hm := mem_listed hev
       simp [execOp, go_sem, e9] at hm
   · rw [op7_11] at h
     cases h
     have e10 : T[116]? = some (.int .i64 ((IntKind.i64.wrap (x.tmod 26 + 26)).tmod 26)) := hdep ⟨10, .data⟩ (by simp) rfl
     constructor
     · simp [execOp, go_sem, val7, e10]
     · refine nil _ fun ev hev => ?_
       have hm := mem_listed hev
       simp [execOp, go_sem, e10] at hm
   · rw [op7_12] at h
     cases h
     have e11 : T[117]? = some (.int .i64 (IntKind.i64.wrap (97 + (IntKind.i64.wrap (x.tmod 26 + 26)).tmod 26))) := hdep ⟨11, .data⟩ (by simp) rfl
     constructor
     · simp [execOp, go_sem, val7, e11, chrI, IntKind.wrap_i32]
     · refine nil _ fun ev hev => ?_
       have hm := mem_listed hev
       simp [execOp, go_sem, e11] at hm
   · rw [op7_13] at h
     cases h
     have e12 : T[118]? = some (.int .i32 (chrI x)) := hdep ⟨12, .data⟩ (by simp) rfl
     constructor
     · simp [execOp, go_sem, val7, e12, chrS]
     · refine nil _ fun ev hev => ?_
       have hm := mem_listed hev
       simp [execOp, go_sem, e12] at hm
   · rw [op7_14] at h
     cases h
     have e3 : T[109]? = some (.string (chrS x)) := hdep ⟨3, .data⟩ (by simp) rfl
     have e13 : T[119]? = some (.string (chrS x)) := hdep ⟨13, .data⟩ (by simp) rfl
     constructor
     · simp [execOp, go_sem, val7, e3, e13]
     · refine nil _ fun ev hev => ?_
       have hm := mem_listed hev
       simp [execOp, go_sem, e3, e13] at hm
theorem still7 {Stop : Goroutine → World → Prop} {m : Nat} {k : List Item} {T0 : Array Value} (hU : U7 (some ⟨bb, ob, none⟩) (some ⟨ba, oa, none⟩) na cb ca i T0) (t17 : T0[17]? = some (.int .i64 i)) (hi : i < na) (hsa : ¬ Shun ba) (hsb : ¬ Shun bb) (hca : w.cell? ⟨ba, oa + i, none⟩ = some (.string (chrS x))) (hcb : w.cell? ⟨bb, ob + i, none⟩ = some (.int .i64 x)) (hF : AtRel w w₁)
   (hgo : ∀ T w₂, AtRel w w₂ → U7 (some ⟨bb, ob, none⟩) (some ⟨ba, oa, none⟩) na cb ca i T → T[120]? = some (.bool false) → Goes Try.prog true AtRel (SD Shun) Stop m (G ((base 7).at ⟨T, []⟩ (.inRegion ops7 [] :: k)) cs) w₂) :
   Goes Try.prog true AtRel (SD Shun) Stop (m + 15 + 1) (G ((base 7).at ⟨T0, []⟩ (.code (.region 15 ops7 true) :: k)) cs) w₁ := by
 have e9 : ops7.size = 15 := by kernel_rfl
 have h := goes_still (main := true) (id := 15) (k := k) (cs := cs) (m := m) (Stop := Stop) (R := AtRel) (by kernel_rfl) (fun w => ⟨Nat.le_refl _, fun e he => by simp at he⟩) (quiet7 hU t17 hi hsa hsb hca hcb) (by decide) (fun h r => AtRel.steady.rel h r) (fun w' h => by obtain ⟨d, rfl⟩ := h; exact ⟨d + 1, rfl⟩) hF (fun w₂ hF => ?_)
 · rw [e9] at h
   exact h
 · rw [e9]
   have el : ∀ j, j < 106 → (fillD T0 (fun k => 106 + k) (val7 ba oa na ca bb ob cb i x) (Array.replicate 15 true) 15)[j]? = T0[j]? := fun j hj => fillD_else _ fun a _ _ => by omega
   exact hgo _ w₂ hF ⟨by rw [fillD_size]; exact hU.size, (el 0 (by omega)).trans hU.t0, (el 15 (by omega)).trans hU.t15, (el 102 (by omega)).trans hU.t102, (el 103 (by omega)).trans hU.t103⟩ (fillD_at (i := 14) (by rfl) (by rw [hU.size]; omega) 15 (fun k _ e => by omega) (by omega))
set_option maxRecDepth 100000 in
theorem nil_round {Stop : Goroutine → World → Prop} (hA : Ls Shun fa ((ns.map chrS).map Value.string) w) (hB : Ls Shun fb (ints ns) w) (hlen : ns.length < 4611686018427387904) (hx : ns[i]? = some x) {U : Array Value} (hU : U7 fb fa ns.length cb ca i U) (hF : AtRel w w₁)
   (hgo : ∀ U w₁, AtRel w w₁ → U7 fb fa ns.length cb ca (i + 1) U → Stop (G ((base 7).at ⟨U, []⟩ [.code lp7, .inLoop lp7, .inBlock 0, .code (tl7 11)]) cs) w₁) :
   Goes Try.prog true AtRel (SD Shun) Stop 80 (G ((base 7).at ⟨U, []⟩ [.code lp7, .inLoop lp7, .inBlock 0, .code (tl7 11)]) cs) w₁ := by
 have hD : ∀ w, SD Shun w w #[] := sd_idle
 have rl : ∀ {w₁ w₂ : World}, AtRel w w₁ → AtRel w₁ w₂ → AtRel w w₂ := fun h r => AtRel.steady.rel h r
 obtain ⟨hs, t0, t15, t102, t103⟩ := hU
 obtain ⟨v, rfl⟩ := array123 U hs
 simp only [List.getElem?_toArray, List.getElem?_cons_zero, List.getElem?_cons_succ, Option.some.injEq] at t0 t15 t102 t103
 rw [t0, t15, t102, t103]
 clear hs t0 t15 t102 t103
 have hi : i < ns.length := (List.getElem?_eq_some_iff.1 hx).1
 have hlt : decide ((i : Int) < (ns.length : Int)) = true := decide_eq_true (by omega)
 have hlt' : decide (i < ns.length) = true := decide_eq_true hi
 have hadd : IntKind.i64.wrap ((i : Int) + 1) = ((i + 1 : Nat) : Int) := by rw [IntKind.wrap_i64]; omega
 obtain ⟨ba, oa, rfl, hsa, hca⟩ := hA i (.string (chrS x)) (by rw [List.map_map, List.getElem?_map, hx]; rfl)
 obtain ⟨bb, ob, rfl, hsb, hcb⟩ := hB i (.int .i64 x) (by rw [List.getElem?_map, hx]; rfl)
 replace hlen := Hd.mk hlen
 replace hgo := Hd.mk hgo
 have hQ := Hd.mk fun (T0 : Array Value) (w₁ : World) (k : List Item) (h : U7 (some ⟨bb, ob, none⟩) (some ⟨ba, oa, none⟩) ns.length cb ca i T0) (t17 : T0[17]? = some (.int .i64 i)) (hF : AtRel w w₁) => still7 (Stop := Stop) (cs := cs) (m := 40) (k := k) h t17 hi hsa hsb hca hcb hF
 simp only [ops7, lp7, tl7, cO, cS, cF, cI, body7, Try.f7, Option.getD_some] at hQ
 clear hA hB hx hca hcb
 simp only [lp7, tl7, cS, cF, cI, body7, Try.f7, Option.getD_some] at hgo ⊢
 repeat ((first | ((with_reducible refine g_opG ?_); first | (refine g_unw hD rfl rfl ?_; intro _ h₁; replace hF := rl hF h₁; clear h₁; walk_nrm) | (refine Goes.step rfl ?_; intro _ h₁; replace hF := rl hF h₁; clear h₁; refine goes_oper_k rfl rfl (by k_ne) fun K hK => ?_; go_simp; refine hK _ _ ⟨?_, ?_⟩; (focus (refine g_idle hD ?_; intro e he; have hm := mem_listed he; simp [go_sem, *] at hm; done)); clear hK K; try w_num)) | ((first | ((with_reducible refine g_c (k' := ?_) true true hD ?_ ?_); rotate_left; focus exact rfl) | with_reducible refine g_r hD rfl ?_); intro _ h₁; replace hF := rl hF h₁; clear h₁)))
 refine Goes.mono (hQ.out _ _ _ ⟨rfl, rfl, rfl, rfl, rfl⟩ rfl hF fun T w₂ hF hU u => ?_) (by omega)
 clear hQ
 obtain ⟨hs, t0, t15, t102, t103⟩ := hU
 obtain ⟨u', rfl⟩ := array123 T hs
 simp only [List.getElem?_toArray, List.getElem?_cons_zero, List.getElem?_cons_succ, Option.some.injEq] at t0 t15 t102 t103 u
 rw [t0, t15, t102, t103, u]
 clear hs t0 t15 t102 t103 u
 repeat ((first | ((with_reducible refine g_opG ?_); first | (refine g_unw hD rfl rfl ?_; intro _ h₁; replace hF := rl hF h₁; clear h₁; walk_nrm) | (refine Goes.step rfl ?_; intro _ h₁; replace hF := rl hF h₁; clear h₁; refine goes_oper_k rfl rfl (by k_ne) fun K hK => ?_; go_simp; refine hK _ _ ⟨?_, ?_⟩; (focus (refine g_idle hD ?_; intro e he; have hm := mem_listed he; simp [go_sem, *] at hm; done)); clear hK K; try w_num)) | ((first | ((with_reducible refine g_c (k' := ?_) false true hD ?_ ?_); rotate_left; focus exact rfl) | with_reducible refine g_r hD rfl ?_); intro _ h₁; replace hF := rl hF h₁; clear h₁)))
 (first | ((with_reducible refine g_opG ?_); first | (refine g_unw hD rfl rfl ?_; intro _ h₁; replace hF := rl hF h₁; clear h₁; walk_nrm) | (refine Goes.step rfl ?_; intro _ h₁; replace hF := rl hF h₁; clear h₁; refine goes_oper_k rfl rfl (by k_ne) fun K hK => ?_; go_simp; refine hK _ _ ⟨?_, ?_⟩; (focus (refine g_idle hD ?_; intro e he; have hm := mem_listed he; simp [go_sem, *] at hm; done)); clear hK K; try w_num)) | ((first | ((with_reducible refine g_c (k' := ?_) true true hD ?_ ?_); rotate_left; focus exact rfl) | with_reducible refine g_r hD rfl ?_); intro _ h₁; replace hF := rl hF h₁; clear h₁))
 exact Goes.stop fun w₄ h₄ => hgo.out _ _ (rl hF h₄) ⟨rfl, rfl, rfl, rfl, rfl⟩
end
end Go.Proofs.Ytblpmdolclalnaa
namespace Go.Proofs.Ytblpmdolclalnaa
open Go.Conc
section
variable {Shun : Nat → Prop} {w : World} {cs : List Frame} {fa fb : Option Addr} {ca cb N0 : Nat} {ns : List Int} {Q : (Nat → Prop) → Goroutine → World → Prop}
theorem nil_loop (hA : Ls Shun fa ((ns.map chrS).map Value.string) w) (hB : Ls Shun fb (ints ns) w) (hlen : ns.length < 4611686018427387904) (hgo : ∀ U w₁, AtRel w w₁ → U7 fb fa ns.length cb ca ns.length U → Lone Try.prog N0 Q Shun (G ((base 7).at ⟨U, []⟩ [.code lp7, .inLoop lp7, .inBlock 0, .code (tl7 11)]) cs) w₁) :
   ∀ (m i : Nat) (U : Array Value) (w₁ : World), i + m = ns.length → AtRel w w₁ → U7 fb fa ns.length cb ca i U → Lone Try.prog N0 Q Shun (G ((base 7).at ⟨U, []⟩ [.code lp7, .inLoop lp7, .inBlock 0, .code (tl7 11)]) cs) w₁ := by
 intro m
 induction m with
 | zero =>
   intro i U w₁ hi hF hU
   obtain rfl : i = ns.length := by omega
   exact hgo U w₁ hF hU
 | succ m ih =>
   intro i U w₁ hi hF hU
   exact Lone.on (n := 80) (nil_round hA hB hlen (List.getElem?_eq_getElem (by omega)) hU hF fun U' w' hF' hU' _ => ih (i + 1) U' w' (by omega) hF' hU')
theorem fns_of {vs : List Value} (h : Ls Shun fa vs w) (hf : ∀ v ∈ vs, isFn v) : FnS Shun fa vs w := ⟨fun i v hv => by
 obtain ⟨bl, o, h1, h2, h3⟩ := h i v hv
 exact ⟨bl, o, h1, h2, h3, hf v (List.mem_of_getElem? hv)⟩⟩
end
theorem lawNil {w : World} {fa : Option Addr} {cap : Nat} {ns : List Int} {b1 : Int} (h1 : 0 ≤ b1 ∧ b1 < 256) (hL : Ls none0 fa (ints ns) w) (hlen : ns.length < 9223372036854775808) :
   Lone Try.prog w.heap.size (LawEnd 7 123 4 w) none0 (G ((base 7).at ⟨#[.slice fa ns.length cap, .int .u8 b1, undef, undef, undef, undef, undef, undef, undef, undef, undef, undef, undef, undef, undef, undef, undef, undef, undef, undef, undef, undef, undef, undef, undef, undef, undef, undef, undef, undef, undef, undef, undef, undef, undef, undef, undef, undef, undef, undef, undef, undef, undef, undef, undef, undef, undef, undef, undef, undef, undef, undef, undef, undef, undef, undef, undef, undef, undef, undef, undef, undef, undef, undef, undef, undef, undef, undef, undef, undef, undef, undef, undef, undef, undef, undef, undef, undef, undef, undef, undef, undef, undef, undef, undef, undef, undef, undef, undef, undef, undef, undef, undef, undef, undef, undef, undef, undef, undef, undef, undef, undef, undef, undef, undef, undef, undef, undef, undef, undef, undef, undef, undef, undef, undef, undef, undef, undef, undef, undef, undef, undef, undef], []⟩ [.code body7]) []) w := by
 have h66 := s66_none w
 obtain ⟨k, hk⟩ : ∃ k : Nat, b1.tmod 16 = (k : Int) := ⟨(b1.tmod 16).toNat, by have := Int.tmod_nonneg 16 h1.1; omega⟩
 have hk16 : k < 16 := by have := Int.tmod_lt_of_pos b1 (show (0 : Int) < 16 by omega); omega
 refine Lone.on (n := 60) (nc0 (F0 := AtRel w) ⟨w.drawn, rfl⟩ AtRel.steady fun T w1 hF hs t0 t1 _ => ?_)
 have K1 := keep_refl_at h66 hF
 have L1 : Ls none0 fa (ints ns) w1 := hL.keep K1
 clear hF
 refine (small_call (N0 := w.heap.size) L1 hlen).bind fun S g w2 _ h => ?_
 obtain ⟨rfl, r2, rfl⟩ := h
 have K2 : Keep none0 w none0 w2 := by obtain ⟨d, rfl⟩ := r2; exact K1.at d
 cases hsm : smallB ns with
 | false =>
   refine Lone.on (n := 60) (nc1 (F0 := Keep none0 w none0) K2 Keep.steady hs fun T w3 hF hs _ => ?_)
   refine (awake_call hF.s66).next hF.out.size fun S4 g4 w4 h4 => ?_
   obtain ⟨k4, rfl⟩ := h4
   exact Lone.goes (n := 60) (nc1b (F0 := Keep none0 w S4) (hF.trans k4) Keep.steady hs fun T kk w5 hF hs h6 => ⟨hF, T, kk, hs, h6, rfl⟩)
 | true =>
   have hn : ns.length ≤ 300 := by
     simp only [smallB, Bool.and_eq_true, decide_eq_true_eq] at hsm
     exact hsm.2
   refine Lone.on (n := 60) (nc2 (k := k) (F0 := fun w' => Keep none0 w none0 w' ∧ Ls none0 fa (ints ns) w') ⟨K2, hL.keep K2⟩ (fun _ d h => ⟨h.1.at d, h.2⟩) hs t0 t1 hk (by rw [IntKind.wrap_i64]; omega) (by rw [IntKind.wrap_i64]; omega) fun T w3 hF hs t0 t5 t6 t27 t28 _ => ?_)
   refine (fn13 (fa := fa) (n := ns.length) (cap := cap) hF.1.s66).next hF.1.out.size fun S4 g4 w4 h4 => ?_
   obtain ⟨k4, kl4, c4, rfl⟩ := h4
   refine Lone.on (n := 60) (nc3 (kl := kl4) (F0 := fun w' => Keep none0 w S4 w' ∧ Ls S4 fa (ints ns) w') ⟨hF.1.trans k4, hF.2.keep k4⟩ (fun _ d h => ⟨h.1.at d, h.2⟩) hs t0 t5 t6 t27 t28 fun T w5 hF hs t0 t5 t6 _ => ?_)
   refine (map_nof (K := k + 1) hF.1.s66 (by omega) (by omega)).next hF.1.out.size fun S6 g6 w6 h6 => ?_
   obtain ⟨k6, rfl⟩ := h6
   refine Lone.on (n := 60) (nc4 (F0 := fun w' => Keep none0 w S6 w' ∧ Ls S6 fa (ints ns) w') ⟨hF.1.trans k6, hF.2.keep k6⟩ (fun _ d h => ⟨h.1.at d, h.2⟩) hs t0 t5 t6 fun T w7 hF hs t0 t5 t6 t7 t8 t35 _ => ?_)
   refine (fn12 (a := 0) hF.1.s66).next hF.1.out.size fun S8 g8 w8 h8 => ?_
   obtain ⟨k8, kb8, c8, rfl⟩ := h8
   refine Lone.on (n := 60) (nc5 (kb := kb8) (F0 := fun w' => Keep none0 w S8 w' ∧ Ls S8 fa (ints ns) w') ⟨hF.1.trans k8, hF.2.keep k8⟩ (fun _ d h => ⟨h.1.at d, h.2⟩) hs t0 t5 t6 t7 t8 t35 fun T w9 hF hs t0 t5 t6 t7 t8 _ => ?_)
   refine (map_noi (K := k + 1) hF.1.s66 (by omega) (by omega)).next hF.1.out.size fun S10 g10 w10 h10 => ?_
   obtain ⟨k10, rfl⟩ := h10
   refine Lone.on (n := 60) (nc6 (F0 := fun w' => Keep none0 w S10 w' ∧ Ls S10 fa (ints ns) w') ⟨hF.1.trans k10, hF.2.keep k10⟩ (fun _ d h => ⟨h.1.at d, h.2⟩) hs t0 t5 t6 t7 t8 fun T w11 hF hs t0 t5 t6 t7 t8 t9 t10 _ => ?_)
   refine (fn13 (fa := fa) (n := ns.length) (cap := cap) hF.1.s66).next hF.1.out.size fun S12 g12 w12 h12 => ?_
   obtain ⟨k12, kl12, c12, rfl⟩ := h12
   refine Lone.on (n := 60) (nc7 (kl := kl12) (F0 := fun w' => Keep none0 w S12 w' ∧ Ls S12 fa (ints ns) w') ⟨hF.1.trans k12, hF.2.keep k12⟩ (fun _ d h => ⟨h.1.at d, h.2⟩) hs t0 t5 t6 t7 t8 t9 t10 fun T w13 hF hs t0 t5 t6 t7 t8 t9 t10 t42 _ => ?_)
   refine (fn12 (a := 0) hF.1.s66).next hF.1.out.size fun S14 g14 w14 h14 => ?_
   obtain ⟨k14, kb14, c14, rfl⟩ := h14
   refine Lone.on (n := 60) (nc8 (kb := kb14) (kl := kl12) (F0 := fun w' => Keep none0 w S14 w' ∧ Ls S14 fa (ints ns) w') (F1 := fun g w' => Keep none0 w S14 w' ∧ Ls S14 fa (ints ns) w' ∧ Ls S14 (some ⟨g, 0, none⟩) [fnV kb14, .nilFunc] w') ⟨hF.1.trans k14, hF.2.keep k14⟩ (fun _ d h => ⟨h.1.at d, h.2⟩) (fun w' h => ⟨h.1.alloc _, h.2.keep (keep_new h.1.s66 _), ls_new h.1.s66 [fnV kb14, .nilFunc]⟩) (fun _ _ d h => ⟨h.1.at d, h.2⟩) hs t0 t5 t6 t7 t8 t9 t10 t42 fun g1 T w15 hF hs t0 t5 t6 t7 t8 t9 t10 _ => ?_)
   refine (chain_nof (kl := kl12) (cap := 2) (vs := [fnV kb14, .nilFunc]) hF.1.s66 (by simp) rfl (fns_of hF.2.2 (fun v hv => by simp only [List.mem_cons, List.not_mem_nil, or_false] at hv; rcases hv with rfl | rfl <;> simp [isFn, fnV]))).next hF.1.out.size fun S16 g16 w16 h16 => ?_
   obtain ⟨k16, rfl⟩ := h16
   refine Lone.on (n := 60) (nc9 (F0 := fun w' => Keep none0 w S16 w' ∧ Ls S16 fa (ints ns) w') ⟨hF.1.trans k16, hF.2.1.keep k16⟩ (fun _ d h => ⟨h.1.at d, h.2⟩) hs t0 t5 t6 t7 t8 t9 t10 fun T w17 hF hs t0 t5 t6 t7 t8 t9 t10 t11 t12 _ => ?_)
   refine (fn12 (a := 0) hF.1.s66).next hF.1.out.size fun S18 g18 w18 h18 => ?_
   obtain ⟨k18, kb18, c18, rfl⟩ := h18
   refine Lone.on (n := 60) (nc10 (kb := kb18) (F0 := fun w' => Keep none0 w S18 w' ∧ Ls S18 fa (ints ns) w') (F1 := fun _ w' => Keep none0 w S18 w' ∧ Ls S18 fa (ints ns) w') ⟨hF.1.trans k18, hF.2.keep k18⟩ (fun _ d h => ⟨h.1.at d, h.2⟩) (fun w' h => ⟨h.1.alloc _, h.2.keep (keep_new h.1.s66 _)⟩) (fun _ _ d h => ⟨h.1.at d, h.2⟩) hs t0 t5 t6 t7 t8 t9 t10 t11 t12 fun g2 T w19 hF hs t0 t5 t6 t7 t8 t9 t10 t11 t12 _ => ?_)
   refine (chain_noi hF.1.s66).next hF.1.out.size fun S20 g20 w20 h20 => ?_
   obtain ⟨k20, rfl⟩ := h20
   refine Lone.on (n := 60) (nc11 (F0 := fun w' => Keep none0 w S20 w' ∧ Ls S20 fa (ints ns) w') ⟨hF.1.trans k20, hF.2.keep k20⟩ (fun _ d h => ⟨h.1.at d, h.2⟩) hs t0 t5 t6 t7 t8 t9 t10 t11 t12 fun T w21 hF hs t0 t5 t6 t7 t8 t9 t10 t11 t12 t13 t14 t56 _ => ?_)
   refine (fn13 (fa := fa) (n := ns.length) (cap := cap) hF.1.s66).next hF.1.out.size fun S22 g22 w22 h22 => ?_
   obtain ⟨k22, kl22, c22, rfl⟩ := h22
   refine Lone.on (n := 60) (nc12 (kl := kl22) (F0 := fun w' => Keep none0 w S22 w' ∧ Ls S22 fa (ints ns) w' ∧ Cel S22 kl22 (.slice fa ns.length cap) w') ⟨hF.1.trans k22, hF.2.keep k22, c22⟩ (fun _ d h => ⟨h.1.at d, h.2⟩) hs t0 t5 t6 t7 t8 t9 t10 t11 t12 t13 t14 t56 fun T w23 hF hs t0 t5 t6 t7 t8 t9 t10 t11 t12 t13 t14 _ => ?_)
   refine (MpT.str_law (K := k + 1) (ns := ns) hF.1.s66 (by omega) (by omega) (by omega) hF.2.2 hF.2.1).next hF.1.out.size fun S24 g24 w24 h24 => ?_
   obtain ⟨k24, v, ⟨f1, c1, rfl, hrow⟩, rfl⟩ := h24
   have K24 := hF.1.trans k24
   have A24 := hF.2.1.keep k24
   clear hF
   have B24 : Ls S24 f1 ((ns.map chrS).map Value.string) w24 := Ls.row hrow (by decide) K24.s66
   rw [List.length_map]
   refine Lone.on (n := 90) (nc13 (fs := f1) (na := ns.length) (c2 := c1) (F0 := fun w' => Keep none0 w S24 w' ∧ Ls S24 fa (ints ns) w' ∧ Ls S24 f1 ((ns.map chrS).map Value.string) w') ⟨K24, A24, B24⟩ (fun _ d h => ⟨h.1.at d, h.2⟩) hs t0 t5 t6 t7 t8 t9 t10 t11 t12 t13 t14 fun T w25 hF hs t0 t15 t102 t103 _ => ?_)
   refine nil_loop hF.2.2 hF.2.1 (by omega) (fun U w26 hr hU => ?_) ns.length 0 T w25 (Nat.zero_add _) ⟨w25.drawn, rfl⟩ ⟨hs, t0, t15, t102, t103⟩
   obtain ⟨hs, t0, t15, t102, t103⟩ := hU
   refine Lone.on (n := 60) (nc14 (F0 := Keep none0 w S24) (by obtain ⟨d, rfl⟩ := hr; exact hF.1.at d) Keep.steady hs t0 t15 t102 t103 (decide_eq_false (by omega)) fun T w27 hF hs _ => ?_)
   refine (awake_call hF.s66).next hF.out.size fun S28 g28 w28 h28 => ?_
   obtain ⟨k28, rfl⟩ := h28
   exact Lone.goes (n := 60) (nc15 (F0 := Keep none0 w S28) (hF.trans k28) Keep.steady hs fun T kk w5 hF hs h6 => ⟨hF, T, kk, hs, h6, rfl⟩)
end Go.Proofs.Ytblpmdolclalnaa
namespace Go.Proofs.Ytblpmdolclalnaa
open Go.ChangeShapes Go.WideShapes Go.ChangeAt Go.RowKit Go.Conc
section
variable {H : Type} {enc : TypeId × Value → H} {P : Program}
theorem trodAll_below (hl : laidOutB P = true) {W W' : World} (hb : Below W.heap.size W W') : ∀ {ts : List TypeId} {vs : List Value} {ds : List (DataW H)} {ps : List MemPlace}, (∀ t ∈ ts, P.readableRec t = true ∧ t < P.types.size) →
   DataW.TrodAll enc P W 0 (fun _ => true) true ts vs ds ps → (∀ x ∈ ps, x.block < W.heap.size) → DataW.TrodAll enc P W' 0 (fun b => decide (b < W.heap.size)) true ts vs ds ps
 | [], vs, ds, ps, _, h, _ => by
   obtain ⟨rfl, rfl, rfl⟩ := trodAll_nil h
   exact trodAll_mk0
 | t :: ts, vs, ds, ps, ht, h, hlt => by
   obtain ⟨v0, vs0, d0, ds0, p0, q0, rfl, rfl, rfl, h0, r0⟩ := trodAll_cons h
   exact trodAll_cons_mk (Below.trod hl (ht t (by simp)).1 (ht t (by simp)).2 h0 hb (fun x hx => hlt x (by simp [hx])))
     (trodAll_below hl hb (fun t' h' => ht t' (by simp [h'])) r0 (fun x hx => hlt x (by simp [hx])))
theorem post_keep {f : Func} {s : ChangeSpec} {apart fresh handsOn : Bool} {W W' : World} {args : Array Value} {v : Value} {ds gs : List (DataW H)} {before : List MemPlace}
   (hW : DataW.Whole enc P f.params.toList s.vars apart W args.toList ds gs before) (hv0 : s.vars = [])
   (hres : ∀ (b : Nat) (sp : Nat → Bool) (hd : Bool), DataW.TrodAll enc P W' b sp hd f.resultTypes.toList (v.resultList f.resultTypes.size) (s.fn H (ds ++ gs)).results [])
   (hsame : (s.fn H (ds ++ gs)).args = ds) (hnov : (s.fn H (ds ++ gs)).vars = [])
   (hl : laidOutB P = true) (ht : ∀ t ∈ f.params.toList, P.readableRec t = true ∧ t < P.types.size) (hb : Below W.heap.size W W') :
   s.post enc P f apart fresh handsOn false W args v W' := by
 have hlt : ∀ p ∈ before, p.block < W.heap.size := fun p hp => hW.lt p hp
 have hW2 := hW
 obtain ⟨p, q, hA, hV, rfl, _, _⟩ := hW2
 rw [hv0] at hV
 obtain ⟨rfl, rfl⟩ := trodVars_none hV
 have hargs : DataW.TrodAll enc P W' 0 (fun b => decide (b < W.heap.size)) true f.params.toList args.toList (s.fn H (ds ++ [])).args p := by
   rw [hsame]
   exact trodAll_below hl hb ht hA (fun x hx => hlt x (by simp [hx]))
 refine ⟨ds, [], p ++ [], [], p, [], hW, hres _ _ _, hargs, ?_, World.keptBut_mono (fun x hx => ⟨hx, ?_⟩) (hb.frame (· ∈ p ++ [])), fun h => by cases h⟩
 · rw [hv0, hnov]; rfl
 · exact .inr (by simpa using hx)
end
theorem Try.own : ownKnob Try.prog.godebug = none := by kernel_rfl
theorem Try.laidOut : laidOutB Try.prog = true := by kernel_rfl
theorem PostL.below {w w' : World} {v : Value} (h : PostL w v w') : v = .bool true ∧ Below w.heap.size w w' := ⟨h.1, h.2.1, h.2.2.1, h.2.2.2.1, h.2.2.2.2.1, h.2.2.2.2.2⟩
theorem cellsOf3 : Try.prog.cellsOf 3 = 1 := by kernel_rfl
theorem ls_cells {w : World} {a : Addr} {xs : List Value} (hc : ∀ i u, xs[i]? = some u → w.cell? (a.add i) = some u) : Ls none0 (some a) xs w := fun i v hv => by
 obtain ⟨b, off, spot⟩ := a
 have hlt : i < xs.length := (List.getElem?_eq_some_iff.1 hv).1
 have h0 := hc 0 _ (List.getElem?_eq_getElem (by omega))
 have hs : spot = none := by simpa [Addr.add] using World.cell?_spot h0
 subst hs
 have h1 := hc i v hv
 exact ⟨b, off, rfl, id, by rw [Addr.add_lit] at h1; exact h1⟩
set_option maxRecDepth 1000000 in
theorem slice_lt {w : World} {r : _root_.Go.Reach} {b0 : Nat} {a : Addr} {len cap : Nat} (hv : Value.okWide Try.prog w r b0 22 (.slice (some a) len cap)) : ∃ bl o, some a = some ⟨bl, o, none⟩ ∧ bl < w.heap.size := by
 simp only [Value.okWide, Try.underlying22, Cell.okWide, Cell.ok, World.has] at hv
 obtain ⟨_, _, _, hs, row, cells, hsh, _⟩ := hv
 obtain ⟨b, off, spot⟩ := a
 have hs' : spot = none := hs
 subst hs'
 refine ⟨b, off, rfl, ?_⟩
 rcases Nat.lt_or_ge b w.heap.size with h | h
 · exact h
 · simp [World.shape?, Array.getElem?_eq_none h] at hsh
set_option maxRecDepth 1000000 in
theorem open_is {H : Type} {enc : TypeId × Value → H} {w : World} {r : _root_.Go.Reach} {b0 : Nat} {v : Value} {d : DataW H} {ps : List MemPlace} (hv : Value.okWide Try.prog w r b0 22 v)
   (h : DataW.Trod enc Try.prog w 0 (fun _ => true) true 22 v d ps) : ∃ (A : Option Addr) (c : Nat) (zs : List Int), v = .slice A zs.length c ∧ Ls none0 A (ints zs) w ∧ ((A = none ∧ c = 0 ∧ zs = []) ∨ ∃ bl o, A = some ⟨bl, o, none⟩ ∧ bl < w.heap.size) ∧ zs.length < 9223372036854775808 := by
 obtain ⟨a0, len, cap, rfl⟩ := okWide_slice Try.underlying22 hv
 obtain ⟨fuel, hf⟩ := h
 rcases open_ints Try.underlying22 Try.underlying3 cellsOf3 hf with ⟨hcs, hx⟩ | ⟨a, len', cap', zs, hcs, _, hl, hm, hz, hx, hcell, hws⟩
 · simp [Value.cells] at hcs
   obtain ⟨rfl, rfl, rfl⟩ := hcs
   exact ⟨none, 0, [], rfl, fun i v hv => (by cases hv), (.inl ⟨rfl, rfl, rfl⟩), (by show 0 < 9223372036854775808; omega)⟩
 · simp [Value.cells] at hcs
   obtain ⟨rfl, rfl, rfl⟩ := hcs
   simp only [if_true] at hz
   have hlen : (zs.take len).length = len := by simp; omega
   refine ⟨some a, cap, zs.take len, by rw [hlen], ls_cells fun i u hu => ?_, (.inr (slice_lt hv)), by rw [hlen]; simp only [maxLen] at hm; omega⟩
   rw [List.getElem?_map, Option.map_eq_some_iff] at hu
   obtain ⟨s, hs, rfl⟩ := hu
   rw [List.getElem?_take] at hs
   split at hs
   · rw [hcell i (by omega), List.getD_eq_getElem?_getD, hs]; rfl
   · cases hs
theorem u8_range {x : Int} (h : (Lit.int .u8 x).wf = true) : 0 ≤ x ∧ x < 256 := by
 have h2 : IntKind.u8.min ≤ x ∧ x ≤ IntKind.u8.max := by simpa [Lit.wf] using h
 have e1 : IntKind.u8.min = 0 := by decide
 have e2 : IntKind.u8.max = 255 := by decide
 omega
end Go.Proofs.Ytblpmdolclalnaa
