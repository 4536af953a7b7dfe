/- Goroutine 0 alone: the regions of the law StageSplits that draw their order, each with its call of Chain or Map. Made by gen_lam.py. -/
import Derived.Test.YtblpmdolclalnaaC26
import Derived.Laws.Slices
namespace Go.Proofs.Ytblpmdolclalnaa
open Go.Conc Go.RowKit Go.Conc.Lib Go.ConcR.Gen Go.ConcN.Gen

noncomputable def body6 : Code := Try.f6.body.getD .skip
noncomputable def tl6 : Nat → Code | 0 => body6 | n + 1 => cS (tl6 n)
section
variable {N0 : Nat} {Q : (Nat → Prop) → Goroutine → World → Prop} {cs : List Frame} {S : Nat → Prop} {w : World} {J : (Nat → Prop) → World → Prop} {fa ff A : Option Addr} {ca nf cf cut C kb bf ofs : Nat} {c : Int} {codes ns : List Int} {kf : Nat → Nat}
noncomputable def opsA : Array Oper := cO (cF (tl6 6))
def dA (k : Nat) : Nat := ([57, 58, 59, 60, 61, 62, 56, 63, 64, 12, 13] : List Nat).getD k 0
def valA (fa : Option Addr) (nl ca : Nat) (ff : Option Addr) (nf cf cut : Nat) (γ : Nat × Value × Nat) : Nat → Value
  | 0 => .slice fa nl ca
  | 1 => seqV γ.1
  | 2 => .slice ff nf cf
  | 3 => .int .i64 cut
  | 4 => .slice ff cut cf
  | 5 => .tuple #[γ.2.1, .int .i64 0]
  | 6 => .tuple #[γ.2.1, .int .i64 0]
  | 7 => γ.2.1
  | 8 => .int .i64 0
  | 9 => γ.2.1
  | 10 => .int .i64 0
  | _ => undef
theorem opA_0 : (opsA[0]?).map (fun o => (o.guard, o.dst, o.op, o.type)) = some (none, some 57, .move (.tmp 0), 22) := by kernel_rfl
theorem opA_1 : (opsA[1]?).map (fun o => (o.guard, o.dst, o.op, o.type)) = some (none, some 58, .call { callee := .value (.func 13), args := #[.tmp 57], argTypes := #[22] }, 31) := by kernel_rfl
theorem opA_2 : (opsA[2]?).map (fun o => (o.guard, o.dst, o.op, o.type)) = some (none, some 59, .move (.tmp 8), 37) := by kernel_rfl
theorem opA_3 : (opsA[3]?).map (fun o => (o.guard, o.dst, o.op, o.type)) = some (none, some 60, .move (.tmp 7), 3) := by kernel_rfl
theorem opA_4 : (opsA[4]?).map (fun o => (o.guard, o.dst, o.op, o.type)) = some (none, some 61, .slice 37 (.tmp 59) none (some (.tmp 60)) none, 37) := by kernel_rfl
theorem opA_5 : (opsA[5]?).map (fun o => (o.guard, o.dst, o.op, o.type)) = some (none, some 62, .call { callee := .value (.func 16), args := #[.tmp 58, .tmp 61], argTypes := #[31, 37] }, 26) := by kernel_rfl
theorem opA_6 : (opsA[6]?).map (fun o => (o.guard, o.dst, o.op, o.type)) = some (none, some 56, .move (.tmp 62), 26) := by kernel_rfl
theorem opA_7 : (opsA[7]?).map (fun o => (o.guard, o.dst, o.op, o.type)) = some (none, some 63, .extract (.tmp 56) 0, 22) := by kernel_rfl
theorem opA_8 : (opsA[8]?).map (fun o => (o.guard, o.dst, o.op, o.type)) = some (none, some 64, .extract (.tmp 56) 1, 25) := by kernel_rfl
theorem opA_9 : (opsA[9]?).map (fun o => (o.guard, o.dst, o.op, o.type)) = some (none, some 12, .assign (.tmp 63), 22) := by kernel_rfl
theorem opA_10 : (opsA[10]?).map (fun o => (o.guard, o.dst, o.op, o.type)) = some (none, some 13, .assign (.tmp 64), 25) := by kernel_rfl
set_option maxRecDepth 100000 in
set_option maxHeartbeats 8000000 in
theorem regA  {T0 : Array Value} (hsz : T0.size = 127) (t0 : T0[0]? = some (.slice fa ns.length ca)) (t7 : T0[7]? = some (.int .i64 codes.length)) (t8 : T0[8]? = some (.slice ff nf cf)) (hJ : ∀ S w, J S w → S66 S w ∧ N0 ≤ w.heap.size ∧ (∀ s, s < codes.length → Cel S (kf s) (.int .u8 (codes.getD s 0)) w) ∧ FnsAt S ff kf codes.length w ∧ Ls S fa (ints ns) w) (hJk : ∀ S w S' w', J S w → Keep S w S' w' → J S' w') (hc : ∀ c ∈ codes, 0 ≤ c ∧ c < 256) (hK : codes.length ≤ 16) (hn9 : ns.length ≤ 900000) (hcf : codes.length ≤ cf)
    (hend : ∀ T v S w, J S w → Got w v (chainL codes ns) → T.size = 127 → T[12]? = some (v) → T[13]? = some (.int .i64 0) → (∀ m, (∀ j, j < 11 → dA j ≠ m) → T[m]? = T0[m]?) → Lone Try.prog N0 Q S (G ((base 6).at ⟨T, []⟩ [.code (tl6 7)]) cs) w) (h : J S w) :
    Lone Try.prog N0 Q S (G ((base 6).at ⟨T0, []⟩ [.code (.region 11 opsA true), .code (tl6 7)]) cs) w := by
  have hD : ∀ S w, SD S w w #[] := fun _ => sd_idle
  have en : opsA.size = 11 := by kernel_rfl
  have hall : DrawR Try.prog N0 Q (base 6) opsA T0 dA (valA fa ns.length ca ff nf cf codes.length) (Dr J 1 5 99 (.slice fa ns.length ca) undef (chainL codes ns)) [.code (tl6 7)] cs := by
    refine ⟨by kernel_rfl, fun a c ha hc => ?_, fun i hi => ?_, fun i L γ S w rest T hi _ hL hn hcl hT0 hB0 hI hgo => ?_⟩
    · have key : ∀ a, a < 11 → ∀ c, c < 11 → dA a = dA c → a = c := by decide
      exact key a (by omega) c (by omega)
    · have key : ∀ a, a < 11 → dA a < 127 := by decide
      rw [hsz]
      exact key i (by omega)
    have hT : ∀ j, j < 11 → L.getD j false = true → T[dA j]? = some ((valA fa ns.length ca ff nf cf codes.length) γ j) := fun j h => hT0 j (by omega)
    have hB : ∀ m, (∀ j, j < 11 → dA j ≠ m) → T[m]? = T0[m]? := fun m h => hB0 m fun j hj => h j (by omega)
    clear hT0 hB0
    have h66 : S66 S w := (hJ _ _ hI.j).1
    have hN : N0 ≤ w.heap.size := (hJ _ _ hI.j).2.1
    have : i = 0 ∨ i = 1 ∨ i = 2 ∨ i = 3 ∨ i = 4 ∨ i = 5 ∨ i = 6 ∨ i = 7 ∨ i = 8 ∨ i = 9 ∨ i = 10 := by omega
    rcases this with rfl | rfl | rfl | rfl | rfl | rfl | rfl | rfl | rfl | rfl | rfl
    · obtain ⟨pos, after, ho⟩ := op_at opA_0
      have b0 : T[0]? = some (.slice fa ns.length ca) := (hB 0 (by decide)).trans t0
      refine lone_pure ho rfl rfl (by decide) (fun w₁ h₁ => ⟨?_, ?_⟩) fun w₁ h₁ => hgo γ S w₁ (fun _ _ => rfl) (hI.pure h66 hJk (keep_refl_at h66 h₁) (by decide))
      · simp [execOp, go_sem, valA, b0]
      · refine g_idle (hD S) fun ev hev => ?_
        have hm := mem_listed hev
        simp [execOp, go_sem, b0] at hm
    · obtain ⟨pos, after, ho⟩ := op_at opA_1
      have e0 : T[57]? = some (.slice fa ns.length ca) := hT 0 (by omega) (hn 0 (by kernel_rfl))
      refine lone_seq h66 hN ho rfl rfl (by decide) rfl e0 fun S' kb w' k1 c1 => hgo (kb, γ.2) S' w' (fun j hj => ?_) (hI.seqed h66 hJk k1 (by decide) c1)
      · skip
        have n1 : ¬ L.getD 1 false = true := fun hm => by rw [hL] at hm; cases hm
        have n5 : ¬ L.getD 5 false = true := fun h => n1 (hcl 5 1 h (by kernel_rfl))
        have n6 : ¬ L.getD 6 false = true := fun h => n5 (hcl 6 5 h (by kernel_rfl))
        have n7 : ¬ L.getD 7 false = true := fun h => n6 (hcl 7 6 h (by kernel_rfl))
        have n8 : ¬ L.getD 8 false = true := fun h => n6 (hcl 8 6 h (by kernel_rfl))
        have n9 : ¬ L.getD 9 false = true := fun h => n1 (hcl 9 1 h (by kernel_rfl))
        have n10 : ¬ L.getD 10 false = true := fun h => n1 (hcl 10 1 h (by kernel_rfl))
        match j, hj with
        | 0, hj => exact rfl
        | 1, hj => exact absurd hj n1
        | 2, hj => exact rfl
        | 3, hj => exact rfl
        | 4, hj => exact rfl
        | 5, hj => exact absurd hj n5
        | 6, hj => exact absurd hj n6
        | 7, hj => exact absurd hj n7
        | 8, hj => exact absurd hj n8
        | 9, hj => exact absurd hj n9
        | 10, hj => exact absurd hj n10
        | _ + 11, _ => exact rfl
    · obtain ⟨pos, after, ho⟩ := op_at opA_2
      have b8 : T[8]? = some (.slice ff nf cf) := (hB 8 (by decide)).trans t8
      refine lone_pure ho rfl rfl (by decide) (fun w₁ h₁ => ⟨?_, ?_⟩) fun w₁ h₁ => hgo γ S w₁ (fun _ _ => rfl) (hI.pure h66 hJk (keep_refl_at h66 h₁) (by decide))
      · simp [execOp, go_sem, valA, b8]
      · refine g_idle (hD S) fun ev hev => ?_
        have hm := mem_listed hev
        simp [execOp, go_sem, b8] at hm
    · obtain ⟨pos, after, ho⟩ := op_at opA_3
      have b7 : T[7]? = some (.int .i64 codes.length) := (hB 7 (by decide)).trans t7
      refine lone_pure ho rfl rfl (by decide) (fun w₁ h₁ => ⟨?_, ?_⟩) fun w₁ h₁ => hgo γ S w₁ (fun _ _ => rfl) (hI.pure h66 hJk (keep_refl_at h66 h₁) (by decide))
      · simp [execOp, go_sem, valA, b7]
      · refine g_idle (hD S) fun ev hev => ?_
        have hm := mem_listed hev
        simp [execOp, go_sem, b7] at hm
    · obtain ⟨pos, after, ho⟩ := op_at opA_4
      have e2 : T[59]? = some (.slice ff nf cf) := hT 2 (by omega) (hn 2 (by kernel_rfl))
      have e3 : T[60]? = some (.int .i64 codes.length) := hT 3 (by omega) (hn 3 (by kernel_rfl))
      refine lone_pure ho rfl rfl (by decide) (fun w₁ h₁ => ⟨?_, ?_⟩) fun w₁ h₁ => hgo γ S w₁ (fun _ _ => rfl) (hI.pure h66 hJk (keep_refl_at h66 h₁) (by decide))
      · simp [execOp, go_sem, valA, e2, e3, hcf]
      · refine g_idle (hD S) fun ev hev => ?_
        have hm := mem_listed hev
        simp [execOp, go_sem, e2, e3, events_sliceH hcf] at hm
    · obtain ⟨pos, after, ho⟩ := op_at opA_5
      have e1 : T[58]? = some (seqV γ.1) := hT 1 (by omega) (hn 1 (by kernel_rfl))
      have e4 : T[61]? = some (.slice ff codes.length cf) := hT 4 (by omega) (hn 4 (by kernel_rfl))
      have cq := hI.seq (hn 1 (by kernel_rfl))
      obtain ⟨_, _, h1, h2, h3⟩ := hJ _ _ hI.j
      refine lone_chain h66 hN ho rfl rfl (by decide) rfl e1 e4 hc hK hn9 h1 h2 cq h3 fun S' v w' k1 c1 => hgo (γ.1, v, γ.2.2) S' w' (fun j hj => ?_) (hI.called hJk k1 (by decide) c1)
      · skip
        have n5 : ¬ L.getD 5 false = true := fun hm => by rw [hL] at hm; cases hm
        have n6 : ¬ L.getD 6 false = true := fun h => n5 (hcl 6 5 h (by kernel_rfl))
        have n7 : ¬ L.getD 7 false = true := fun h => n6 (hcl 7 6 h (by kernel_rfl))
        have n8 : ¬ L.getD 8 false = true := fun h => n6 (hcl 8 6 h (by kernel_rfl))
        have n9 : ¬ L.getD 9 false = true := fun h => n5 (hcl 9 5 h (by kernel_rfl))
        have n10 : ¬ L.getD 10 false = true := fun h => n5 (hcl 10 5 h (by kernel_rfl))
        match j, hj with
        | 0, hj => exact rfl
        | 1, hj => exact rfl
        | 2, hj => exact rfl
        | 3, hj => exact rfl
        | 4, hj => exact rfl
        | 5, hj => exact absurd hj n5
        | 6, hj => exact absurd hj n6
        | 7, hj => exact absurd hj n7
        | 8, hj => exact absurd hj n8
        | 9, hj => exact absurd hj n9
        | 10, hj => exact absurd hj n10
        | _ + 11, _ => exact rfl
    · obtain ⟨pos, after, ho⟩ := op_at opA_6
      have e5 : T[62]? = some (.tuple #[γ.2.1, .int .i64 0]) := hT 5 (by omega) (hn 5 (by kernel_rfl))
      refine lone_pure ho rfl rfl (by decide) (fun w₁ h₁ => ⟨?_, ?_⟩) fun w₁ h₁ => hgo γ S w₁ (fun _ _ => rfl) (hI.pure h66 hJk (keep_refl_at h66 h₁) (by decide))
      · simp [execOp, go_sem, valA, e5]
      · refine g_idle (hD S) fun ev hev => ?_
        have hm := mem_listed hev
        simp [execOp, go_sem, e5] at hm
    · obtain ⟨pos, after, ho⟩ := op_at opA_7
      have e6 : T[56]? = some (.tuple #[γ.2.1, .int .i64 0]) := hT 6 (by omega) (hn 6 (by kernel_rfl))
      refine lone_pure ho rfl rfl (by decide) (fun w₁ h₁ => ⟨?_, ?_⟩) fun w₁ h₁ => hgo γ S w₁ (fun _ _ => rfl) (hI.pure h66 hJk (keep_refl_at h66 h₁) (by decide))
      · simp [execOp, go_sem, valA, e6]
      · refine g_idle (hD S) fun ev hev => ?_
        have hm := mem_listed hev
        simp [execOp, go_sem, e6] at hm
    · obtain ⟨pos, after, ho⟩ := op_at opA_8
      have e6 : T[56]? = some (.tuple #[γ.2.1, .int .i64 0]) := hT 6 (by omega) (hn 6 (by kernel_rfl))
      refine lone_pure ho rfl rfl (by decide) (fun w₁ h₁ => ⟨?_, ?_⟩) fun w₁ h₁ => hgo γ S w₁ (fun _ _ => rfl) (hI.pure h66 hJk (keep_refl_at h66 h₁) (by decide))
      · simp [execOp, go_sem, valA, e6]
      · refine g_idle (hD S) fun ev hev => ?_
        have hm := mem_listed hev
        simp [execOp, go_sem, e6] at hm
    · obtain ⟨pos, after, ho⟩ := op_at opA_9
      have e7 : T[63]? = some (γ.2.1) := hT 7 (by omega) (hn 7 (by kernel_rfl))
      refine lone_pure ho rfl rfl (by decide) (fun w₁ h₁ => ⟨?_, ?_⟩) fun w₁ h₁ => hgo γ S w₁ (fun _ _ => rfl) (hI.pure h66 hJk (keep_refl_at h66 h₁) (by decide))
      · simp [execOp, go_sem, valA, e7]
      · refine g_idle (hD S) fun ev hev => ?_
        have hm := mem_listed hev
        simp [execOp, go_sem, e7] at hm
    · obtain ⟨pos, after, ho⟩ := op_at opA_10
      have e8 : T[64]? = some (.int .i64 0) := hT 8 (by omega) (hn 8 (by kernel_rfl))
      refine lone_pure ho rfl rfl (by decide) (fun w₁ h₁ => ⟨?_, ?_⟩) fun w₁ h₁ => hgo γ S w₁ (fun _ _ => rfl) (hI.pure h66 hJk (keep_refl_at h66 h₁) (by decide))
      · simp [execOp, go_sem, valA, e8]
      · refine g_idle (hD S) fun ev hev => ?_
        have hm := mem_listed hev
        simp [execOp, go_sem, e8] at hm
  refine lone_draw (by kernel_rfl) (γ := (0, undef, 0)) hall (fun w₃ h₃ => Dr.first (hJk _ _ _ _ h (keep_refl_at (hJ _ _ h).1 h₃)) _) fun γ S' w' hI => ?_
  refine Lone.on (n := 1) (g_regE (hD S') fun w₄ h₄ => Goes.stop fun w₅ h₅ _ => ?_)
  have k5 := keep_refl_at (hJ _ _ hI.j).1 (AtRel.steady.rel h₄ h₅)
  rw [en] at hI ⊢
  have hd : ∀ j, j < 11 → (Array.replicate 11 true).getD j false = true := by decide
  have key : ∀ a, a < 11 → ∀ c, c < 11 → dA a = dA c → a = c := by decide
  have lo : ∀ a, a < 11 → dA a < 127 := by decide
  have at' : ∀ j, j < 11 → (fillD T0 dA ((valA fa ns.length ca ff nf cf codes.length) γ) (Array.replicate 11 true) 11)[dA j]? = some ((valA fa ns.length ca ff nf cf codes.length) γ j) := fun j hj => fillD_at (hd j hj) (by rw [hsz]; exact lo j hj) _ (fun a ha e => key a ha j hj e) hj
  exact hend _ _ _ _ (hJk _ _ _ _ hI.j k5) ((hI.got (hd 5 (by omega))).keep k5 (hJ _ _ hI.j).1) (by rw [fillD_size]; exact hsz) (at' 9 (by omega)) (at' 10 (by omega)) (fun m hm => fillD_else _ fun j hj _ => hm j hj)

noncomputable def opsB : Array Oper := cO (cF (tl6 7))
def dB (k : Nat) : Nat := ([66, 67, 68, 69, 70, 71, 65, 72, 73, 14, 15] : List Nat).getD k 0
def valB (fa : Option Addr) (nl ca : Nat) (ff : Option Addr) (nf cf cut : Nat) (A : Option Addr) (γ : Nat × Value × Nat) : Nat → Value
  | 0 => .slice fa nl ca
  | 1 => seqV γ.1
  | 2 => .slice ff nf cf
  | 3 => .int .i64 cut
  | 4 => .slice A (nf - cut) (cf - cut)
  | 5 => .tuple #[γ.2.1, .int .i64 0]
  | 6 => .tuple #[γ.2.1, .int .i64 0]
  | 7 => γ.2.1
  | 8 => .int .i64 0
  | 9 => γ.2.1
  | 10 => .int .i64 0
  | _ => undef
theorem opB_0 : (opsB[0]?).map (fun o => (o.guard, o.dst, o.op, o.type)) = some (none, some 66, .move (.tmp 12), 22) := by kernel_rfl
theorem opB_1 : (opsB[1]?).map (fun o => (o.guard, o.dst, o.op, o.type)) = some (none, some 67, .call { callee := .value (.func 13), args := #[.tmp 66], argTypes := #[22] }, 31) := by kernel_rfl
theorem opB_2 : (opsB[2]?).map (fun o => (o.guard, o.dst, o.op, o.type)) = some (none, some 68, .move (.tmp 8), 37) := by kernel_rfl
theorem opB_3 : (opsB[3]?).map (fun o => (o.guard, o.dst, o.op, o.type)) = some (none, some 69, .move (.tmp 7), 3) := by kernel_rfl
theorem opB_4 : (opsB[4]?).map (fun o => (o.guard, o.dst, o.op, o.type)) = some (none, some 70, .slice 37 (.tmp 68) (some (.tmp 69)) none none, 37) := by kernel_rfl
theorem opB_5 : (opsB[5]?).map (fun o => (o.guard, o.dst, o.op, o.type)) = some (none, some 71, .call { callee := .value (.func 16), args := #[.tmp 67, .tmp 70], argTypes := #[31, 37] }, 26) := by kernel_rfl
theorem opB_6 : (opsB[6]?).map (fun o => (o.guard, o.dst, o.op, o.type)) = some (none, some 65, .move (.tmp 71), 26) := by kernel_rfl
theorem opB_7 : (opsB[7]?).map (fun o => (o.guard, o.dst, o.op, o.type)) = some (none, some 72, .extract (.tmp 65) 0, 22) := by kernel_rfl
theorem opB_8 : (opsB[8]?).map (fun o => (o.guard, o.dst, o.op, o.type)) = some (none, some 73, .extract (.tmp 65) 1, 25) := by kernel_rfl
theorem opB_9 : (opsB[9]?).map (fun o => (o.guard, o.dst, o.op, o.type)) = some (none, some 14, .assign (.tmp 72), 22) := by kernel_rfl
theorem opB_10 : (opsB[10]?).map (fun o => (o.guard, o.dst, o.op, o.type)) = some (none, some 15, .assign (.tmp 73), 25) := by kernel_rfl
theorem codeB : (tl6 7) = .seq (.region 12 opsB true) (tl6 8) := by kernel_rfl
set_option maxRecDepth 100000 in
set_option maxHeartbeats 8000000 in
theorem regB  {T0 : Array Value} (hsz : T0.size = 127) (t12 : T0[12]? = some (.slice fa ns.length ca)) (t7 : T0[7]? = some (.int .i64 cut)) (t8 : T0[8]? = some (.slice ff nf cf)) (hJ : ∀ S w, J S w → S66 S w ∧ N0 ≤ w.heap.size ∧ (∀ s, s < codes.length → Cel S (kf s) (.int .u8 (codes.getD s 0)) w) ∧ FnsAt S A kf codes.length w ∧ Ls S fa (ints ns) w) (hJk : ∀ S w S' w', J S w → Keep S w S' w' → J S' w') (hc : ∀ c ∈ codes, 0 ≤ c ∧ c < 256) (hK : codes.length ≤ 16) (hn9 : ns.length ≤ 900000) (hcf : cut ≤ nf) (hA : (if cf = cut then ff else Option.map (fun x => x.add cut) ff) = A) (hlc : nf - cut = codes.length)
    (hend : ∀ T v S w, J S w → Got w v (chainL codes ns) → T.size = 127 → T[14]? = some (v) → T[15]? = some (.int .i64 0) → (∀ m, (∀ j, j < 11 → dB j ≠ m) → T[m]? = T0[m]?) → Lone Try.prog N0 Q S (G ((base 6).at ⟨T, []⟩ [.code (tl6 8)]) cs) w) (h : J S w) :
    Lone Try.prog N0 Q S (G ((base 6).at ⟨T0, []⟩ [.code (.region 12 opsB true), .code (tl6 8)]) cs) w := by
  have hD : ∀ S w, SD S w w #[] := fun _ => sd_idle
  have en : opsB.size = 11 := by kernel_rfl
  have hall : DrawR Try.prog N0 Q (base 6) opsB T0 dB (valB fa ns.length ca ff nf cf cut A) (Dr J 1 5 99 (.slice fa ns.length ca) undef (chainL codes ns)) [.code (tl6 8)] cs := by
    refine ⟨by kernel_rfl, fun a c ha hc => ?_, fun i hi => ?_, fun i L γ S w rest T hi _ hL hn hcl hT0 hB0 hI hgo => ?_⟩
    · have key : ∀ a, a < 11 → ∀ c, c < 11 → dB a = dB c → a = c := by decide
      exact key a (by omega) c (by omega)
    · have key : ∀ a, a < 11 → dB a < 127 := by decide
      rw [hsz]
      exact key i (by omega)
    have hT : ∀ j, j < 11 → L.getD j false = true → T[dB j]? = some ((valB fa ns.length ca ff nf cf cut A) γ j) := fun j h => hT0 j (by omega)
    have hB : ∀ m, (∀ j, j < 11 → dB j ≠ m) → T[m]? = T0[m]? := fun m h => hB0 m fun j hj => h j (by omega)
    clear hT0 hB0
    have h66 : S66 S w := (hJ _ _ hI.j).1
    have hN : N0 ≤ w.heap.size := (hJ _ _ hI.j).2.1
    have : i = 0 ∨ i = 1 ∨ i = 2 ∨ i = 3 ∨ i = 4 ∨ i = 5 ∨ i = 6 ∨ i = 7 ∨ i = 8 ∨ i = 9 ∨ i = 10 := by omega
    rcases this with rfl | rfl | rfl | rfl | rfl | rfl | rfl | rfl | rfl | rfl | rfl
    · obtain ⟨pos, after, ho⟩ := op_at opB_0
      have b12 : T[12]? = some (.slice fa ns.length ca) := (hB 12 (by decide)).trans t12
      refine lone_pure ho rfl rfl (by decide) (fun w₁ h₁ => ⟨?_, ?_⟩) fun w₁ h₁ => hgo γ S w₁ (fun _ _ => rfl) (hI.pure h66 hJk (keep_refl_at h66 h₁) (by decide))
      · simp [execOp, go_sem, valB, b12]
      · refine g_idle (hD S) fun ev hev => ?_
        have hm := mem_listed hev
        simp [execOp, go_sem, b12] at hm
    · obtain ⟨pos, after, ho⟩ := op_at opB_1
      have e0 : T[66]? = some (.slice fa ns.length ca) := hT 0 (by omega) (hn 0 (by kernel_rfl))
      refine lone_seq h66 hN ho rfl rfl (by decide) rfl e0 fun S' kb w' k1 c1 => hgo (kb, γ.2) S' w' (fun j hj => ?_) (hI.seqed h66 hJk k1 (by decide) c1)
      · skip
        have n1 : ¬ L.getD 1 false = true := fun hm => by rw [hL] at hm; cases hm
        have n5 : ¬ L.getD 5 false = true := fun h => n1 (hcl 5 1 h (by kernel_rfl))
        have n6 : ¬ L.getD 6 false = true := fun h => n5 (hcl 6 5 h (by kernel_rfl))
        have n7 : ¬ L.getD 7 false = true := fun h => n6 (hcl 7 6 h (by kernel_rfl))
        have n8 : ¬ L.getD 8 false = true := fun h => n6 (hcl 8 6 h (by kernel_rfl))
        have n9 : ¬ L.getD 9 false = true := fun h => n1 (hcl 9 1 h (by kernel_rfl))
        have n10 : ¬ L.getD 10 false = true := fun h => n1 (hcl 10 1 h (by kernel_rfl))
        match j, hj with
        | 0, hj => exact rfl
        | 1, hj => exact absurd hj n1
        | 2, hj => exact rfl
        | 3, hj => exact rfl
        | 4, hj => exact rfl
        | 5, hj => exact absurd hj n5
        | 6, hj => exact absurd hj n6
        | 7, hj => exact absurd hj n7
        | 8, hj => exact absurd hj n8
        | 9, hj => exact absurd hj n9
        | 10, hj => exact absurd hj n10
        | _ + 11, _ => exact rfl
    · obtain ⟨pos, after, ho⟩ := op_at opB_2
      have b8 : T[8]? = some (.slice ff nf cf) := (hB 8 (by decide)).trans t8
      refine lone_pure ho rfl rfl (by decide) (fun w₁ h₁ => ⟨?_, ?_⟩) fun w₁ h₁ => hgo γ S w₁ (fun _ _ => rfl) (hI.pure h66 hJk (keep_refl_at h66 h₁) (by decide))
      · simp [execOp, go_sem, valB, b8]
      · refine g_idle (hD S) fun ev hev => ?_
        have hm := mem_listed hev
        simp [execOp, go_sem, b8] at hm
    · obtain ⟨pos, after, ho⟩ := op_at opB_3
      have b7 : T[7]? = some (.int .i64 cut) := (hB 7 (by decide)).trans t7
      refine lone_pure ho rfl rfl (by decide) (fun w₁ h₁ => ⟨?_, ?_⟩) fun w₁ h₁ => hgo γ S w₁ (fun _ _ => rfl) (hI.pure h66 hJk (keep_refl_at h66 h₁) (by decide))
      · simp [execOp, go_sem, valB, b7]
      · refine g_idle (hD S) fun ev hev => ?_
        have hm := mem_listed hev
        simp [execOp, go_sem, b7] at hm
    · obtain ⟨pos, after, ho⟩ := op_at opB_4
      have e2 : T[68]? = some (.slice ff nf cf) := hT 2 (by omega) (hn 2 (by kernel_rfl))
      have e3 : T[69]? = some (.int .i64 cut) := hT 3 (by omega) (hn 3 (by kernel_rfl))
      refine lone_pure ho rfl rfl (by decide) (fun w₁ h₁ => ⟨?_, ?_⟩) fun w₁ h₁ => hgo γ S w₁ (fun _ _ => rfl) (hI.pure h66 hJk (keep_refl_at h66 h₁) (by decide))
      · simp [execOp, go_sem, valB, e2, e3, hcf, hA]
      · refine g_idle (hD S) fun ev hev => ?_
        have hm := mem_listed hev
        simp [execOp, go_sem, e2, e3, events_sliceL hcf] at hm
    · obtain ⟨pos, after, ho⟩ := op_at opB_5
      have e1 : T[67]? = some (seqV γ.1) := hT 1 (by omega) (hn 1 (by kernel_rfl))
      have e4 : T[70]? = some (.slice A (nf - cut) (cf - cut)) := hT 4 (by omega) (hn 4 (by kernel_rfl))
      have cq := hI.seq (hn 1 (by kernel_rfl))
      obtain ⟨_, _, h1, h2, h3⟩ := hJ _ _ hI.j
      refine lone_chain h66 hN ho rfl rfl (by decide) rfl e1 (hlc ▸ e4) hc hK hn9 h1 h2 cq h3 fun S' v w' k1 c1 => hgo (γ.1, v, γ.2.2) S' w' (fun j hj => ?_) (hI.called hJk k1 (by decide) c1)
      · skip
        have n5 : ¬ L.getD 5 false = true := fun hm => by rw [hL] at hm; cases hm
        have n6 : ¬ L.getD 6 false = true := fun h => n5 (hcl 6 5 h (by kernel_rfl))
        have n7 : ¬ L.getD 7 false = true := fun h => n6 (hcl 7 6 h (by kernel_rfl))
        have n8 : ¬ L.getD 8 false = true := fun h => n6 (hcl 8 6 h (by kernel_rfl))
        have n9 : ¬ L.getD 9 false = true := fun h => n5 (hcl 9 5 h (by kernel_rfl))
        have n10 : ¬ L.getD 10 false = true := fun h => n5 (hcl 10 5 h (by kernel_rfl))
        match j, hj with
        | 0, hj => exact rfl
        | 1, hj => exact rfl
        | 2, hj => exact rfl
        | 3, hj => exact rfl
        | 4, hj => exact rfl
        | 5, hj => exact absurd hj n5
        | 6, hj => exact absurd hj n6
        | 7, hj => exact absurd hj n7
        | 8, hj => exact absurd hj n8
        | 9, hj => exact absurd hj n9
        | 10, hj => exact absurd hj n10
        | _ + 11, _ => exact rfl
    · obtain ⟨pos, after, ho⟩ := op_at opB_6
      have e5 : T[71]? = some (.tuple #[γ.2.1, .int .i64 0]) := hT 5 (by omega) (hn 5 (by kernel_rfl))
      refine lone_pure ho rfl rfl (by decide) (fun w₁ h₁ => ⟨?_, ?_⟩) fun w₁ h₁ => hgo γ S w₁ (fun _ _ => rfl) (hI.pure h66 hJk (keep_refl_at h66 h₁) (by decide))
      · simp [execOp, go_sem, valB, e5]
      · refine g_idle (hD S) fun ev hev => ?_
        have hm := mem_listed hev
        simp [execOp, go_sem, e5] at hm
    · obtain ⟨pos, after, ho⟩ := op_at opB_7
      have e6 : T[65]? = some (.tuple #[γ.2.1, .int .i64 0]) := hT 6 (by omega) (hn 6 (by kernel_rfl))
      refine lone_pure ho rfl rfl (by decide) (fun w₁ h₁ => ⟨?_, ?_⟩) fun w₁ h₁ => hgo γ S w₁ (fun _ _ => rfl) (hI.pure h66 hJk (keep_refl_at h66 h₁) (by decide))
      · simp [execOp, go_sem, valB, e6]
      · refine g_idle (hD S) fun ev hev => ?_
        have hm := mem_listed hev
        simp [execOp, go_sem, e6] at hm
    · obtain ⟨pos, after, ho⟩ := op_at opB_8
      have e6 : T[65]? = some (.tuple #[γ.2.1, .int .i64 0]) := hT 6 (by omega) (hn 6 (by kernel_rfl))
      refine lone_pure ho rfl rfl (by decide) (fun w₁ h₁ => ⟨?_, ?_⟩) fun w₁ h₁ => hgo γ S w₁ (fun _ _ => rfl) (hI.pure h66 hJk (keep_refl_at h66 h₁) (by decide))
      · simp [execOp, go_sem, valB, e6]
      · refine g_idle (hD S) fun ev hev => ?_
        have hm := mem_listed hev
        simp [execOp, go_sem, e6] at hm
    · obtain ⟨pos, after, ho⟩ := op_at opB_9
      have e7 : T[72]? = some (γ.2.1) := hT 7 (by omega) (hn 7 (by kernel_rfl))
      refine lone_pure ho rfl rfl (by decide) (fun w₁ h₁ => ⟨?_, ?_⟩) fun w₁ h₁ => hgo γ S w₁ (fun _ _ => rfl) (hI.pure h66 hJk (keep_refl_at h66 h₁) (by decide))
      · simp [execOp, go_sem, valB, e7]
      · refine g_idle (hD S) fun ev hev => ?_
        have hm := mem_listed hev
        simp [execOp, go_sem, e7] at hm
    · obtain ⟨pos, after, ho⟩ := op_at opB_10
      have e8 : T[73]? = some (.int .i64 0) := hT 8 (by omega) (hn 8 (by kernel_rfl))
      refine lone_pure ho rfl rfl (by decide) (fun w₁ h₁ => ⟨?_, ?_⟩) fun w₁ h₁ => hgo γ S w₁ (fun _ _ => rfl) (hI.pure h66 hJk (keep_refl_at h66 h₁) (by decide))
      · simp [execOp, go_sem, valB, e8]
      · refine g_idle (hD S) fun ev hev => ?_
        have hm := mem_listed hev
        simp [execOp, go_sem, e8] at hm
  refine lone_draw (by kernel_rfl) (γ := (0, undef, 0)) hall (fun w₃ h₃ => Dr.first (hJk _ _ _ _ h (keep_refl_at (hJ _ _ h).1 h₃)) _) fun γ S' w' hI => ?_
  refine Lone.on (n := 1) (g_regE (hD S') fun w₄ h₄ => Goes.stop fun w₅ h₅ _ => ?_)
  have k5 := keep_refl_at (hJ _ _ hI.j).1 (AtRel.steady.rel h₄ h₅)
  rw [en] at hI ⊢
  have hd : ∀ j, j < 11 → (Array.replicate 11 true).getD j false = true := by decide
  have key : ∀ a, a < 11 → ∀ c, c < 11 → dB a = dB c → a = c := by decide
  have lo : ∀ a, a < 11 → dB a < 127 := by decide
  have at' : ∀ j, j < 11 → (fillD T0 dB ((valB fa ns.length ca ff nf cf cut A) γ) (Array.replicate 11 true) 11)[dB j]? = some ((valB fa ns.length ca ff nf cf cut A) γ j) := fun j hj => fillD_at (hd j hj) (by rw [hsz]; exact lo j hj) _ (fun a ha e => key a ha j hj e) hj
  exact hend _ _ _ _ (hJk _ _ _ _ hI.j k5) ((hI.got (hd 5 (by omega))).keep k5 (hJ _ _ hI.j).1) (by rw [fillD_size]; exact hsz) (at' 9 (by omega)) (at' 10 (by omega)) (fun m hm => fillD_else _ fun j hj _ => hm j hj)

noncomputable def opsC : Array Oper := cO (cF (tl6 10))
def dC (k : Nat) : Nat := ([94, 95, 96, 97, 98, 99, 100, 93, 101, 102, 16, 17] : List Nat).getD k 0
def valC (fa : Option Addr) (nl ca bf ofs nf cf cut kb : Nat) (γ : Nat × Value × Nat) : Nat → Value
  | 0 => .int .i64 cut
  | 1 => .slice (some ⟨bf, ofs, none⟩) nf cf
  | 2 => .pointer (some ⟨bf, ofs, none⟩)
  | 3 => fnV kb
  | 4 => .slice fa nl ca
  | 5 => seqV γ.1
  | 6 => .tuple #[γ.2.1, .int .i64 0]
  | 7 => .tuple #[γ.2.1, .int .i64 0]
  | 8 => γ.2.1
  | 9 => .int .i64 0
  | 10 => γ.2.1
  | 11 => .int .i64 0
  | _ => undef
theorem opC_0 : (opsC[0]?).map (fun o => (o.guard, o.dst, o.op, o.type)) = some (none, some 94, .move (.tmp 7), 3) := by kernel_rfl
theorem opC_1 : (opsC[1]?).map (fun o => (o.guard, o.dst, o.op, o.type)) = some (none, some 95, .move (.tmp 8), 37) := by kernel_rfl
theorem opC_2 : (opsC[2]?).map (fun o => (o.guard, o.dst, o.op, o.type)) = some (none, some 96, .indexAddr 37 (.tmp 95) (.const (.int .i64 0)), 0) := by kernel_rfl
theorem opC_3 : (opsC[3]?).map (fun o => (o.guard, o.dst, o.op, o.type)) = some (none, some 97, .load 28 (.tmp 96), 28) := by kernel_rfl
theorem opC_4 : (opsC[4]?).map (fun o => (o.guard, o.dst, o.op, o.type)) = some (none, some 98, .move (.tmp 0), 22) := by kernel_rfl
theorem opC_5 : (opsC[5]?).map (fun o => (o.guard, o.dst, o.op, o.type)) = some (none, some 99, .call { callee := .value (.func 13), args := #[.tmp 98], argTypes := #[22] }, 31) := by kernel_rfl
theorem opC_6 : (opsC[6]?).map (fun o => (o.guard, o.dst, o.op, o.type)) = some (none, some 100, .call { callee := .value (.func 11), args := #[.tmp 94, .tmp 97, .tmp 99], argTypes := #[3, 28, 31] }, 26) := by kernel_rfl
theorem opC_7 : (opsC[7]?).map (fun o => (o.guard, o.dst, o.op, o.type)) = some (none, some 93, .move (.tmp 100), 26) := by kernel_rfl
theorem opC_8 : (opsC[8]?).map (fun o => (o.guard, o.dst, o.op, o.type)) = some (none, some 101, .extract (.tmp 93) 0, 22) := by kernel_rfl
theorem opC_9 : (opsC[9]?).map (fun o => (o.guard, o.dst, o.op, o.type)) = some (none, some 102, .extract (.tmp 93) 1, 25) := by kernel_rfl
theorem opC_10 : (opsC[10]?).map (fun o => (o.guard, o.dst, o.op, o.type)) = some (none, some 16, .assign (.tmp 101), 22) := by kernel_rfl
theorem opC_11 : (opsC[11]?).map (fun o => (o.guard, o.dst, o.op, o.type)) = some (none, some 17, .assign (.tmp 102), 25) := by kernel_rfl
set_option maxRecDepth 100000 in
set_option maxHeartbeats 8000000 in
theorem regC  {T0 : Array Value} (hsz : T0.size = 127) (t0 : T0[0]? = some (.slice fa ns.length ca)) (t7 : T0[7]? = some (.int .i64 cut)) (t8 : T0[8]? = some (.slice (some ⟨bf, ofs, none⟩) nf cf)) (hJ : ∀ S w, J S w → S66 S w ∧ N0 ≤ w.heap.size ∧ Cel S kb (.int .u8 c) w ∧ (¬ S bf ∧ w.cell? ⟨bf, ofs, none⟩ = some (fnV kb)) ∧ Ls S fa (ints ns) w) (hJk : ∀ S w S' w', J S w → Keep S w S' w' → J S' w') (hc : 0 ≤ c ∧ c < 256) (hn9 : ns.length ≤ 900000) (hnf : 0 < nf) (hK1 : 0 < cut) (hK : cut ≤ 16)
    (hend : ∀ T v S w, J S w → Got w v (ns.map (applyP c)) → T.size = 127 → T[16]? = some (v) → T[17]? = some (.int .i64 0) → (∀ m, (∀ j, j < 12 → dC j ≠ m) → T[m]? = T0[m]?) → Lone Try.prog N0 Q S (G ((base 6).at ⟨T, []⟩ [.code (tl6 11)]) cs) w) (h : J S w) :
    Lone Try.prog N0 Q S (G ((base 6).at ⟨T0, []⟩ [.code (.region 17 opsC true), .code (tl6 11)]) cs) w := by
  have hD : ∀ S w, SD S w w #[] := fun _ => sd_idle
  have en : opsC.size = 12 := by kernel_rfl
  have hall : DrawR Try.prog N0 Q (base 6) opsC T0 dC (valC fa ns.length ca bf ofs nf cf cut kb) (Dr J 5 6 99 (.slice fa ns.length ca) undef (ns.map (applyP c))) [.code (tl6 11)] cs := by
    refine ⟨by kernel_rfl, fun a c ha hc => ?_, fun i hi => ?_, fun i L γ S w rest T hi _ hL hn hcl hT0 hB0 hI hgo => ?_⟩
    · have key : ∀ a, a < 12 → ∀ c, c < 12 → dC a = dC c → a = c := by decide
      exact key a (by omega) c (by omega)
    · have key : ∀ a, a < 12 → dC a < 127 := by decide
      rw [hsz]
      exact key i (by omega)
    have hT : ∀ j, j < 12 → L.getD j false = true → T[dC j]? = some ((valC fa ns.length ca bf ofs nf cf cut kb) γ j) := fun j h => hT0 j (by omega)
    have hB : ∀ m, (∀ j, j < 12 → dC j ≠ m) → T[m]? = T0[m]? := fun m h => hB0 m fun j hj => h j (by omega)
    clear hT0 hB0
    have h66 : S66 S w := (hJ _ _ hI.j).1
    have hN : N0 ≤ w.heap.size := (hJ _ _ hI.j).2.1
    have : i = 0 ∨ i = 1 ∨ i = 2 ∨ i = 3 ∨ i = 4 ∨ i = 5 ∨ i = 6 ∨ i = 7 ∨ i = 8 ∨ i = 9 ∨ i = 10 ∨ i = 11 := by omega
    rcases this with rfl | rfl | rfl | rfl | rfl | rfl | rfl | rfl | rfl | rfl | rfl | rfl
    · obtain ⟨pos, after, ho⟩ := op_at opC_0
      have b7 : T[7]? = some (.int .i64 cut) := (hB 7 (by decide)).trans t7
      refine lone_pure ho rfl rfl (by decide) (fun w₁ h₁ => ⟨?_, ?_⟩) fun w₁ h₁ => hgo γ S w₁ (fun _ _ => rfl) (hI.pure h66 hJk (keep_refl_at h66 h₁) (by decide))
      · simp [execOp, go_sem, valC, b7]
      · refine g_idle (hD S) fun ev hev => ?_
        have hm := mem_listed hev
        simp [execOp, go_sem, b7] at hm
    · obtain ⟨pos, after, ho⟩ := op_at opC_1
      have b8 : T[8]? = some (.slice (some ⟨bf, ofs, none⟩) nf cf) := (hB 8 (by decide)).trans t8
      refine lone_pure ho rfl rfl (by decide) (fun w₁ h₁ => ⟨?_, ?_⟩) fun w₁ h₁ => hgo γ S w₁ (fun _ _ => rfl) (hI.pure h66 hJk (keep_refl_at h66 h₁) (by decide))
      · simp [execOp, go_sem, valC, b8]
      · refine g_idle (hD S) fun ev hev => ?_
        have hm := mem_listed hev
        simp [execOp, go_sem, b8] at hm
    · obtain ⟨pos, after, ho⟩ := op_at opC_2
      have e1 : T[95]? = some (.slice (some ⟨bf, ofs, none⟩) nf cf) := hT 1 (by omega) (hn 1 (by kernel_rfl))
      refine lone_pure ho rfl rfl (by decide) (fun w₁ h₁ => ⟨?_, ?_⟩) fun w₁ h₁ => hgo γ S w₁ (fun _ _ => rfl) (hI.pure h66 hJk (keep_refl_at h66 h₁) (by decide))
      · simp [execOp, go_sem, valC, e1, hnf]
      · refine g_idle (hD S) fun ev hev => ?_
        have hm := mem_listed hev
        simp [execOp, go_sem, e1, hnf] at hm
    · obtain ⟨pos, after, ho⟩ := op_at opC_3
      have e2 : T[96]? = some (.pointer (some ⟨bf, ofs, none⟩)) := hT 2 (by omega) (hn 2 (by kernel_rfl))
      refine lone_pure ho rfl rfl (by decide) (fun w₁ h₁ => ⟨?_, ?_⟩) fun w₁ h₁ => hgo γ S w₁ (fun _ _ => rfl) (hI.pure h66 hJk (keep_refl_at h66 h₁) (by decide))
      · have hc : w₁.cell? ⟨bf, ofs, none⟩ = some (fnV kb) := by obtain ⟨d, rfl⟩ := h₁; exact (hJ _ _ hI.j).2.2.2.1.2
        simp [execOp, go_sem, valC, e2, hc]
      · refine sd_read fun ev hev => ?_
        have hc : w₁.cell? ⟨bf, ofs, none⟩ = some (fnV kb) := by obtain ⟨d, rfl⟩ := h₁; exact (hJ _ _ hI.j).2.2.2.1.2
        have hm := mem_listed hev
        simp [execOp, go_sem, e2, hc] at hm
        exact ⟨_, _, _, hm, (hJ _ _ hI.j).2.2.2.1.1, cell_lt hc⟩
    · obtain ⟨pos, after, ho⟩ := op_at opC_4
      have b0 : T[0]? = some (.slice fa ns.length ca) := (hB 0 (by decide)).trans t0
      refine lone_pure ho rfl rfl (by decide) (fun w₁ h₁ => ⟨?_, ?_⟩) fun w₁ h₁ => hgo γ S w₁ (fun _ _ => rfl) (hI.pure h66 hJk (keep_refl_at h66 h₁) (by decide))
      · simp [execOp, go_sem, valC, b0]
      · refine g_idle (hD S) fun ev hev => ?_
        have hm := mem_listed hev
        simp [execOp, go_sem, b0] at hm
    · obtain ⟨pos, after, ho⟩ := op_at opC_5
      have e4 : T[98]? = some (.slice fa ns.length ca) := hT 4 (by omega) (hn 4 (by kernel_rfl))
      refine lone_seq h66 hN ho rfl rfl (by decide) rfl e4 fun S' kb w' k1 c1 => hgo (kb, γ.2) S' w' (fun j hj => ?_) (hI.seqed h66 hJk k1 (by decide) c1)
      · skip
        have n5 : ¬ L.getD 5 false = true := fun hm => by rw [hL] at hm; cases hm
        have n6 : ¬ L.getD 6 false = true := fun h => n5 (hcl 6 5 h (by kernel_rfl))
        have n7 : ¬ L.getD 7 false = true := fun h => n6 (hcl 7 6 h (by kernel_rfl))
        have n8 : ¬ L.getD 8 false = true := fun h => n7 (hcl 8 7 h (by kernel_rfl))
        have n9 : ¬ L.getD 9 false = true := fun h => n7 (hcl 9 7 h (by kernel_rfl))
        have n10 : ¬ L.getD 10 false = true := fun h => n5 (hcl 10 5 h (by kernel_rfl))
        have n11 : ¬ L.getD 11 false = true := fun h => n5 (hcl 11 5 h (by kernel_rfl))
        match j, hj with
        | 0, hj => exact rfl
        | 1, hj => exact rfl
        | 2, hj => exact rfl
        | 3, hj => exact rfl
        | 4, hj => exact rfl
        | 5, hj => exact absurd hj n5
        | 6, hj => exact absurd hj n6
        | 7, hj => exact absurd hj n7
        | 8, hj => exact absurd hj n8
        | 9, hj => exact absurd hj n9
        | 10, hj => exact absurd hj n10
        | 11, hj => exact absurd hj n11
        | _ + 12, _ => exact rfl
    · obtain ⟨pos, after, ho⟩ := op_at opC_6
      have e0 : T[94]? = some (.int .i64 cut) := hT 0 (by omega) (hn 0 (by kernel_rfl))
      have e3 : T[97]? = some (fnV kb) := hT 3 (by omega) (hn 3 (by kernel_rfl))
      have e5 : T[99]? = some (seqV γ.1) := hT 5 (by omega) (hn 5 (by kernel_rfl))
      have cq := hI.seq (hn 5 (by kernel_rfl))
      obtain ⟨_, _, h1, _, h3⟩ := hJ _ _ hI.j
      refine lone_map h66 hN ho rfl rfl (by decide) rfl e0 e3 e5 hc hK1 hK hn9 h1 cq h3 fun S' v w' k1 c1 => hgo (γ.1, v, γ.2.2) S' w' (fun j hj => ?_) (hI.called hJk k1 (by decide) c1)
      · skip
        have n6 : ¬ L.getD 6 false = true := fun hm => by rw [hL] at hm; cases hm
        have n7 : ¬ L.getD 7 false = true := fun h => n6 (hcl 7 6 h (by kernel_rfl))
        have n8 : ¬ L.getD 8 false = true := fun h => n7 (hcl 8 7 h (by kernel_rfl))
        have n9 : ¬ L.getD 9 false = true := fun h => n7 (hcl 9 7 h (by kernel_rfl))
        have n10 : ¬ L.getD 10 false = true := fun h => n6 (hcl 10 6 h (by kernel_rfl))
        have n11 : ¬ L.getD 11 false = true := fun h => n6 (hcl 11 6 h (by kernel_rfl))
        match j, hj with
        | 0, hj => exact rfl
        | 1, hj => exact rfl
        | 2, hj => exact rfl
        | 3, hj => exact rfl
        | 4, hj => exact rfl
        | 5, hj => exact rfl
        | 6, hj => exact absurd hj n6
        | 7, hj => exact absurd hj n7
        | 8, hj => exact absurd hj n8
        | 9, hj => exact absurd hj n9
        | 10, hj => exact absurd hj n10
        | 11, hj => exact absurd hj n11
        | _ + 12, _ => exact rfl
    · obtain ⟨pos, after, ho⟩ := op_at opC_7
      have e6 : T[100]? = some (.tuple #[γ.2.1, .int .i64 0]) := hT 6 (by omega) (hn 6 (by kernel_rfl))
      refine lone_pure ho rfl rfl (by decide) (fun w₁ h₁ => ⟨?_, ?_⟩) fun w₁ h₁ => hgo γ S w₁ (fun _ _ => rfl) (hI.pure h66 hJk (keep_refl_at h66 h₁) (by decide))
      · simp [execOp, go_sem, valC, e6]
      · refine g_idle (hD S) fun ev hev => ?_
        have hm := mem_listed hev
        simp [execOp, go_sem, e6] at hm
    · obtain ⟨pos, after, ho⟩ := op_at opC_8
      have e7 : T[93]? = some (.tuple #[γ.2.1, .int .i64 0]) := hT 7 (by omega) (hn 7 (by kernel_rfl))
      refine lone_pure ho rfl rfl (by decide) (fun w₁ h₁ => ⟨?_, ?_⟩) fun w₁ h₁ => hgo γ S w₁ (fun _ _ => rfl) (hI.pure h66 hJk (keep_refl_at h66 h₁) (by decide))
      · simp [execOp, go_sem, valC, e7]
      · refine g_idle (hD S) fun ev hev => ?_
        have hm := mem_listed hev
        simp [execOp, go_sem, e7] at hm
    · obtain ⟨pos, after, ho⟩ := op_at opC_9
      have e7 : T[93]? = some (.tuple #[γ.2.1, .int .i64 0]) := hT 7 (by omega) (hn 7 (by kernel_rfl))
      refine lone_pure ho rfl rfl (by decide) (fun w₁ h₁ => ⟨?_, ?_⟩) fun w₁ h₁ => hgo γ S w₁ (fun _ _ => rfl) (hI.pure h66 hJk (keep_refl_at h66 h₁) (by decide))
      · simp [execOp, go_sem, valC, e7]
      · refine g_idle (hD S) fun ev hev => ?_
        have hm := mem_listed hev
        simp [execOp, go_sem, e7] at hm
    · obtain ⟨pos, after, ho⟩ := op_at opC_10
      have e8 : T[101]? = some (γ.2.1) := hT 8 (by omega) (hn 8 (by kernel_rfl))
      refine lone_pure ho rfl rfl (by decide) (fun w₁ h₁ => ⟨?_, ?_⟩) fun w₁ h₁ => hgo γ S w₁ (fun _ _ => rfl) (hI.pure h66 hJk (keep_refl_at h66 h₁) (by decide))
      · simp [execOp, go_sem, valC, e8]
      · refine g_idle (hD S) fun ev hev => ?_
        have hm := mem_listed hev
        simp [execOp, go_sem, e8] at hm
    · obtain ⟨pos, after, ho⟩ := op_at opC_11
      have e9 : T[102]? = some (.int .i64 0) := hT 9 (by omega) (hn 9 (by kernel_rfl))
      refine lone_pure ho rfl rfl (by decide) (fun w₁ h₁ => ⟨?_, ?_⟩) fun w₁ h₁ => hgo γ S w₁ (fun _ _ => rfl) (hI.pure h66 hJk (keep_refl_at h66 h₁) (by decide))
      · simp [execOp, go_sem, valC, e9]
      · refine g_idle (hD S) fun ev hev => ?_
        have hm := mem_listed hev
        simp [execOp, go_sem, e9] at hm
  refine lone_draw (by kernel_rfl) (γ := (0, undef, 0)) hall (fun w₃ h₃ => Dr.first (hJk _ _ _ _ h (keep_refl_at (hJ _ _ h).1 h₃)) _) fun γ S' w' hI => ?_
  refine Lone.on (n := 1) (g_regE (hD S') fun w₄ h₄ => Goes.stop fun w₅ h₅ _ => ?_)
  have k5 := keep_refl_at (hJ _ _ hI.j).1 (AtRel.steady.rel h₄ h₅)
  rw [en] at hI ⊢
  have hd : ∀ j, j < 12 → (Array.replicate 12 true).getD j false = true := by decide
  have key : ∀ a, a < 12 → ∀ c, c < 12 → dC a = dC c → a = c := by decide
  have lo : ∀ a, a < 12 → dC a < 127 := by decide
  have at' : ∀ j, j < 12 → (fillD T0 dC ((valC fa ns.length ca bf ofs nf cf cut kb) γ) (Array.replicate 12 true) 12)[dC j]? = some ((valC fa ns.length ca bf ofs nf cf cut kb) γ j) := fun j hj => fillD_at (hd j hj) (by rw [hsz]; exact lo j hj) _ (fun a ha e => key a ha j hj e) hj
  exact hend _ _ _ _ (hJk _ _ _ _ hI.j k5) ((hI.got (hd 6 (by omega))).keep k5 (hJ _ _ hI.j).1) (by rw [fillD_size]; exact hsz) (at' 10 (by omega)) (at' 11 (by omega)) (fun m hm => fillD_else _ fun j hj _ => hm j hj)

noncomputable def opsD : Array Oper := cO (cF (tl6 11))
def dD (k : Nat) : Nat := ([104, 105, 106, 107, 108, 109, 110, 103, 111, 112, 18, 19] : List Nat).getD k 0
def valD (fa : Option Addr) (nl ca bf ofs nf cf kb : Nat) (γ : Nat × Value × Nat) : Nat → Value
  | 0 => .slice fa nl ca
  | 1 => seqV γ.1
  | 2 => .slice (some ⟨bf, ofs, none⟩) nf cf
  | 3 => .pointer (some ⟨bf, ofs, none⟩)
  | 4 => fnV kb
  | 5 => .slice (some ⟨γ.2.2, 0, none⟩) 1 1
  | 6 => .tuple #[γ.2.1, .int .i64 0]
  | 7 => .tuple #[γ.2.1, .int .i64 0]
  | 8 => γ.2.1
  | 9 => .int .i64 0
  | 10 => γ.2.1
  | 11 => .int .i64 0
  | _ => undef
theorem opD_0 : (opsD[0]?).map (fun o => (o.guard, o.dst, o.op, o.type)) = some (none, some 104, .move (.tmp 0), 22) := by kernel_rfl
theorem opD_1 : (opsD[1]?).map (fun o => (o.guard, o.dst, o.op, o.type)) = some (none, some 105, .call { callee := .value (.func 13), args := #[.tmp 104], argTypes := #[22] }, 31) := by kernel_rfl
theorem opD_2 : (opsD[2]?).map (fun o => (o.guard, o.dst, o.op, o.type)) = some (none, some 106, .move (.tmp 8), 37) := by kernel_rfl
theorem opD_3 : (opsD[3]?).map (fun o => (o.guard, o.dst, o.op, o.type)) = some (none, some 107, .indexAddr 37 (.tmp 106) (.const (.int .i64 0)), 0) := by kernel_rfl
theorem opD_4 : (opsD[4]?).map (fun o => (o.guard, o.dst, o.op, o.type)) = some (none, some 108, .load 28 (.tmp 107), 28) := by kernel_rfl
theorem opD_5 : (opsD[5]?).map (fun o => (o.guard, o.dst, o.op, o.type)) = some (none, some 109, .buildSlice 37 1 #[(0, .tmp 108)], 37) := by kernel_rfl
theorem opD_6 : (opsD[6]?).map (fun o => (o.guard, o.dst, o.op, o.type)) = some (none, some 110, .call { callee := .value (.func 16), args := #[.tmp 105, .tmp 109], argTypes := #[31, 37] }, 26) := by kernel_rfl
theorem opD_7 : (opsD[7]?).map (fun o => (o.guard, o.dst, o.op, o.type)) = some (none, some 103, .move (.tmp 110), 26) := by kernel_rfl
theorem opD_8 : (opsD[8]?).map (fun o => (o.guard, o.dst, o.op, o.type)) = some (none, some 111, .extract (.tmp 103) 0, 22) := by kernel_rfl
theorem opD_9 : (opsD[9]?).map (fun o => (o.guard, o.dst, o.op, o.type)) = some (none, some 112, .extract (.tmp 103) 1, 25) := by kernel_rfl
theorem opD_10 : (opsD[10]?).map (fun o => (o.guard, o.dst, o.op, o.type)) = some (none, some 18, .assign (.tmp 111), 22) := by kernel_rfl
theorem opD_11 : (opsD[11]?).map (fun o => (o.guard, o.dst, o.op, o.type)) = some (none, some 19, .assign (.tmp 112), 25) := by kernel_rfl
theorem codeD : (tl6 11) = .seq (.region 18 opsD true) (tl6 12) := by kernel_rfl
set_option maxRecDepth 100000 in
set_option maxHeartbeats 8000000 in
theorem regD  {T0 : Array Value} (hsz : T0.size = 127) (t0 : T0[0]? = some (.slice fa ns.length ca)) (t8 : T0[8]? = some (.slice (some ⟨bf, ofs, none⟩) nf cf)) (hJ : ∀ S w, J S w → S66 S w ∧ N0 ≤ w.heap.size ∧ Cel S kb (.int .u8 c) w ∧ (¬ S bf ∧ w.cell? ⟨bf, ofs, none⟩ = some (fnV kb)) ∧ Ls S fa (ints ns) w) (hJk : ∀ S w S' w', J S w → Keep S w S' w' → J S' w') (hc : 0 ≤ c ∧ c < 256) (hn9 : ns.length ≤ 900000) (hnf : 0 < nf)
    (hend : ∀ T v S w, J S w → Got w v (chainL [c] ns) → T.size = 127 → T[18]? = some (v) → T[19]? = some (.int .i64 0) → (∀ m, (∀ j, j < 12 → dD j ≠ m) → T[m]? = T0[m]?) → Lone Try.prog N0 Q S (G ((base 6).at ⟨T, []⟩ [.code (tl6 12)]) cs) w) (h : J S w) :
    Lone Try.prog N0 Q S (G ((base 6).at ⟨T0, []⟩ [.code (.region 18 opsD true), .code (tl6 12)]) cs) w := by
  have hD : ∀ S w, SD S w w #[] := fun _ => sd_idle
  have en : opsD.size = 12 := by kernel_rfl
  have hall : DrawR Try.prog N0 Q (base 6) opsD T0 dD (valD fa ns.length ca bf ofs nf cf kb) (Dr J 1 6 5 (.slice fa ns.length ca) (fnV kb) (chainL [c] ns)) [.code (tl6 12)] cs := by
    refine ⟨by kernel_rfl, fun a c ha hc => ?_, fun i hi => ?_, fun i L γ S w rest T hi _ hL hn hcl hT0 hB0 hI hgo => ?_⟩
    · have key : ∀ a, a < 12 → ∀ c, c < 12 → dD a = dD c → a = c := by decide
      exact key a (by omega) c (by omega)
    · have key : ∀ a, a < 12 → dD a < 127 := by decide
      rw [hsz]
      exact key i (by omega)
    have hT : ∀ j, j < 12 → L.getD j false = true → T[dD j]? = some ((valD fa ns.length ca bf ofs nf cf kb) γ j) := fun j h => hT0 j (by omega)
    have hB : ∀ m, (∀ j, j < 12 → dD j ≠ m) → T[m]? = T0[m]? := fun m h => hB0 m fun j hj => h j (by omega)
    clear hT0 hB0
    have h66 : S66 S w := (hJ _ _ hI.j).1
    have hN : N0 ≤ w.heap.size := (hJ _ _ hI.j).2.1
    have : i = 0 ∨ i = 1 ∨ i = 2 ∨ i = 3 ∨ i = 4 ∨ i = 5 ∨ i = 6 ∨ i = 7 ∨ i = 8 ∨ i = 9 ∨ i = 10 ∨ i = 11 := by omega
    rcases this with rfl | rfl | rfl | rfl | rfl | rfl | rfl | rfl | rfl | rfl | rfl | rfl
    · obtain ⟨pos, after, ho⟩ := op_at opD_0
      have b0 : T[0]? = some (.slice fa ns.length ca) := (hB 0 (by decide)).trans t0
      refine lone_pure ho rfl rfl (by decide) (fun w₁ h₁ => ⟨?_, ?_⟩) fun w₁ h₁ => hgo γ S w₁ (fun _ _ => rfl) (hI.pure h66 hJk (keep_refl_at h66 h₁) (by decide))
      · simp [execOp, go_sem, valD, b0]
      · refine g_idle (hD S) fun ev hev => ?_
        have hm := mem_listed hev
        simp [execOp, go_sem, b0] at hm
    · obtain ⟨pos, after, ho⟩ := op_at opD_1
      have e0 : T[104]? = some (.slice fa ns.length ca) := hT 0 (by omega) (hn 0 (by kernel_rfl))
      refine lone_seq h66 hN ho rfl rfl (by decide) rfl e0 fun S' kb w' k1 c1 => hgo (kb, γ.2) S' w' (fun j hj => ?_) (hI.seqed h66 hJk k1 (by decide) c1)
      · skip
        have n1 : ¬ L.getD 1 false = true := fun hm => by rw [hL] at hm; cases hm
        have n6 : ¬ L.getD 6 false = true := fun h => n1 (hcl 6 1 h (by kernel_rfl))
        have n7 : ¬ L.getD 7 false = true := fun h => n6 (hcl 7 6 h (by kernel_rfl))
        have n8 : ¬ L.getD 8 false = true := fun h => n7 (hcl 8 7 h (by kernel_rfl))
        have n9 : ¬ L.getD 9 false = true := fun h => n7 (hcl 9 7 h (by kernel_rfl))
        have n10 : ¬ L.getD 10 false = true := fun h => n1 (hcl 10 1 h (by kernel_rfl))
        have n11 : ¬ L.getD 11 false = true := fun h => n1 (hcl 11 1 h (by kernel_rfl))
        match j, hj with
        | 0, hj => exact rfl
        | 1, hj => exact absurd hj n1
        | 2, hj => exact rfl
        | 3, hj => exact rfl
        | 4, hj => exact rfl
        | 5, hj => exact rfl
        | 6, hj => exact absurd hj n6
        | 7, hj => exact absurd hj n7
        | 8, hj => exact absurd hj n8
        | 9, hj => exact absurd hj n9
        | 10, hj => exact absurd hj n10
        | 11, hj => exact absurd hj n11
        | _ + 12, _ => exact rfl
    · obtain ⟨pos, after, ho⟩ := op_at opD_2
      have b8 : T[8]? = some (.slice (some ⟨bf, ofs, none⟩) nf cf) := (hB 8 (by decide)).trans t8
      refine lone_pure ho rfl rfl (by decide) (fun w₁ h₁ => ⟨?_, ?_⟩) fun w₁ h₁ => hgo γ S w₁ (fun _ _ => rfl) (hI.pure h66 hJk (keep_refl_at h66 h₁) (by decide))
      · simp [execOp, go_sem, valD, b8]
      · refine g_idle (hD S) fun ev hev => ?_
        have hm := mem_listed hev
        simp [execOp, go_sem, b8] at hm
    · obtain ⟨pos, after, ho⟩ := op_at opD_3
      have e2 : T[106]? = some (.slice (some ⟨bf, ofs, none⟩) nf cf) := hT 2 (by omega) (hn 2 (by kernel_rfl))
      refine lone_pure ho rfl rfl (by decide) (fun w₁ h₁ => ⟨?_, ?_⟩) fun w₁ h₁ => hgo γ S w₁ (fun _ _ => rfl) (hI.pure h66 hJk (keep_refl_at h66 h₁) (by decide))
      · simp [execOp, go_sem, valD, e2, hnf]
      · refine g_idle (hD S) fun ev hev => ?_
        have hm := mem_listed hev
        simp [execOp, go_sem, e2, hnf] at hm
    · obtain ⟨pos, after, ho⟩ := op_at opD_4
      have e3 : T[107]? = some (.pointer (some ⟨bf, ofs, none⟩)) := hT 3 (by omega) (hn 3 (by kernel_rfl))
      refine lone_pure ho rfl rfl (by decide) (fun w₁ h₁ => ⟨?_, ?_⟩) fun w₁ h₁ => hgo γ S w₁ (fun _ _ => rfl) (hI.pure h66 hJk (keep_refl_at h66 h₁) (by decide))
      · have hc : w₁.cell? ⟨bf, ofs, none⟩ = some (fnV kb) := by obtain ⟨d, rfl⟩ := h₁; exact (hJ _ _ hI.j).2.2.2.1.2
        simp [execOp, go_sem, valD, e3, hc]
      · refine sd_read fun ev hev => ?_
        have hc : w₁.cell? ⟨bf, ofs, none⟩ = some (fnV kb) := by obtain ⟨d, rfl⟩ := h₁; exact (hJ _ _ hI.j).2.2.2.1.2
        have hm := mem_listed hev
        simp [execOp, go_sem, e3, hc] at hm
        exact ⟨_, _, _, hm, (hJ _ _ hI.j).2.2.2.1.1, cell_lt hc⟩
    · obtain ⟨pos, after, ho⟩ := op_at opD_5
      have e4 : T[108]? = some (fnV kb) := hT 4 (by omega) (hn 4 (by kernel_rfl))
      refine lone_box h66 ho rfl rfl (by decide) rfl e4 fun kb' w' k1 c1 => hgo (γ.1, γ.2.1, kb') S w' (fun j hj => ?_) (hI.boxed h66 hJk k1 (by decide) c1)
      · skip
        have n5 : ¬ L.getD 5 false = true := fun hm => by rw [hL] at hm; cases hm
        have n6 : ¬ L.getD 6 false = true := fun h => n5 (hcl 6 5 h (by kernel_rfl))
        have n7 : ¬ L.getD 7 false = true := fun h => n6 (hcl 7 6 h (by kernel_rfl))
        have n8 : ¬ L.getD 8 false = true := fun h => n7 (hcl 8 7 h (by kernel_rfl))
        have n9 : ¬ L.getD 9 false = true := fun h => n7 (hcl 9 7 h (by kernel_rfl))
        have n10 : ¬ L.getD 10 false = true := fun h => n5 (hcl 10 5 h (by kernel_rfl))
        have n11 : ¬ L.getD 11 false = true := fun h => n5 (hcl 11 5 h (by kernel_rfl))
        match j, hj with
        | 0, hj => exact rfl
        | 1, hj => exact rfl
        | 2, hj => exact rfl
        | 3, hj => exact rfl
        | 4, hj => exact rfl
        | 5, hj => exact absurd hj n5
        | 6, hj => exact absurd hj n6
        | 7, hj => exact absurd hj n7
        | 8, hj => exact absurd hj n8
        | 9, hj => exact absurd hj n9
        | 10, hj => exact absurd hj n10
        | 11, hj => exact absurd hj n11
        | _ + 12, _ => exact rfl
    · obtain ⟨pos, after, ho⟩ := op_at opD_6
      have e1 : T[105]? = some (seqV γ.1) := hT 1 (by omega) (hn 1 (by kernel_rfl))
      have e5 : T[109]? = some (.slice (some ⟨γ.2.2, 0, none⟩) 1 1) := hT 5 (by omega) (hn 5 (by kernel_rfl))
      have cq := hI.seq (hn 1 (by kernel_rfl))
      obtain ⟨_, _, h1, _, h3⟩ := hJ _ _ hI.j
      have bq := hI.box (hn 5 (by kernel_rfl))
      refine lone_chain (codes := [c]) (kf := fun _ => kb) h66 hN ho rfl rfl (by decide) rfl e1 e5 (by simpa using hc) (by simp) hn9 (fun s hs => by obtain rfl : s = 0 := (by simpa using hs); exact h1) (fun s hs => by obtain rfl : s = 0 := (by simpa using hs); exact ⟨_, _, rfl, bq.1, bq.2⟩) cq h3 fun S' v w' k1 c1 => hgo (γ.1, v, γ.2.2) S' w' (fun j hj => ?_) (hI.called hJk k1 (by decide) c1)
      · skip
        have n6 : ¬ L.getD 6 false = true := fun hm => by rw [hL] at hm; cases hm
        have n7 : ¬ L.getD 7 false = true := fun h => n6 (hcl 7 6 h (by kernel_rfl))
        have n8 : ¬ L.getD 8 false = true := fun h => n7 (hcl 8 7 h (by kernel_rfl))
        have n9 : ¬ L.getD 9 false = true := fun h => n7 (hcl 9 7 h (by kernel_rfl))
        have n10 : ¬ L.getD 10 false = true := fun h => n6 (hcl 10 6 h (by kernel_rfl))
        have n11 : ¬ L.getD 11 false = true := fun h => n6 (hcl 11 6 h (by kernel_rfl))
        match j, hj with
        | 0, hj => exact rfl
        | 1, hj => exact rfl
        | 2, hj => exact rfl
        | 3, hj => exact rfl
        | 4, hj => exact rfl
        | 5, hj => exact rfl
        | 6, hj => exact absurd hj n6
        | 7, hj => exact absurd hj n7
        | 8, hj => exact absurd hj n8
        | 9, hj => exact absurd hj n9
        | 10, hj => exact absurd hj n10
        | 11, hj => exact absurd hj n11
        | _ + 12, _ => exact rfl
    · obtain ⟨pos, after, ho⟩ := op_at opD_7
      have e6 : T[110]? = some (.tuple #[γ.2.1, .int .i64 0]) := hT 6 (by omega) (hn 6 (by kernel_rfl))
      refine lone_pure ho rfl rfl (by decide) (fun w₁ h₁ => ⟨?_, ?_⟩) fun w₁ h₁ => hgo γ S w₁ (fun _ _ => rfl) (hI.pure h66 hJk (keep_refl_at h66 h₁) (by decide))
      · simp [execOp, go_sem, valD, e6]
      · refine g_idle (hD S) fun ev hev => ?_
        have hm := mem_listed hev
        simp [execOp, go_sem, e6] at hm
    · obtain ⟨pos, after, ho⟩ := op_at opD_8
      have e7 : T[103]? = some (.tuple #[γ.2.1, .int .i64 0]) := hT 7 (by omega) (hn 7 (by kernel_rfl))
      refine lone_pure ho rfl rfl (by decide) (fun w₁ h₁ => ⟨?_, ?_⟩) fun w₁ h₁ => hgo γ S w₁ (fun _ _ => rfl) (hI.pure h66 hJk (keep_refl_at h66 h₁) (by decide))
      · simp [execOp, go_sem, valD, e7]
      · refine g_idle (hD S) fun ev hev => ?_
        have hm := mem_listed hev
        simp [execOp, go_sem, e7] at hm
    · obtain ⟨pos, after, ho⟩ := op_at opD_9
      have e7 : T[103]? = some (.tuple #[γ.2.1, .int .i64 0]) := hT 7 (by omega) (hn 7 (by kernel_rfl))
      refine lone_pure ho rfl rfl (by decide) (fun w₁ h₁ => ⟨?_, ?_⟩) fun w₁ h₁ => hgo γ S w₁ (fun _ _ => rfl) (hI.pure h66 hJk (keep_refl_at h66 h₁) (by decide))
      · simp [execOp, go_sem, valD, e7]
      · refine g_idle (hD S) fun ev hev => ?_
        have hm := mem_listed hev
        simp [execOp, go_sem, e7] at hm
    · obtain ⟨pos, after, ho⟩ := op_at opD_10
      have e8 : T[111]? = some (γ.2.1) := hT 8 (by omega) (hn 8 (by kernel_rfl))
      refine lone_pure ho rfl rfl (by decide) (fun w₁ h₁ => ⟨?_, ?_⟩) fun w₁ h₁ => hgo γ S w₁ (fun _ _ => rfl) (hI.pure h66 hJk (keep_refl_at h66 h₁) (by decide))
      · simp [execOp, go_sem, valD, e8]
      · refine g_idle (hD S) fun ev hev => ?_
        have hm := mem_listed hev
        simp [execOp, go_sem, e8] at hm
    · obtain ⟨pos, after, ho⟩ := op_at opD_11
      have e9 : T[112]? = some (.int .i64 0) := hT 9 (by omega) (hn 9 (by kernel_rfl))
      refine lone_pure ho rfl rfl (by decide) (fun w₁ h₁ => ⟨?_, ?_⟩) fun w₁ h₁ => hgo γ S w₁ (fun _ _ => rfl) (hI.pure h66 hJk (keep_refl_at h66 h₁) (by decide))
      · simp [execOp, go_sem, valD, e9]
      · refine g_idle (hD S) fun ev hev => ?_
        have hm := mem_listed hev
        simp [execOp, go_sem, e9] at hm
  refine lone_draw (by kernel_rfl) (γ := (0, undef, 0)) hall (fun w₃ h₃ => Dr.first (hJk _ _ _ _ h (keep_refl_at (hJ _ _ h).1 h₃)) _) fun γ S' w' hI => ?_
  refine Lone.on (n := 1) (g_regE (hD S') fun w₄ h₄ => Goes.stop fun w₅ h₅ _ => ?_)
  have k5 := keep_refl_at (hJ _ _ hI.j).1 (AtRel.steady.rel h₄ h₅)
  rw [en] at hI ⊢
  have hd : ∀ j, j < 12 → (Array.replicate 12 true).getD j false = true := by decide
  have key : ∀ a, a < 12 → ∀ c, c < 12 → dD a = dD c → a = c := by decide
  have lo : ∀ a, a < 12 → dD a < 127 := by decide
  have at' : ∀ j, j < 12 → (fillD T0 dD ((valD fa ns.length ca bf ofs nf cf kb) γ) (Array.replicate 12 true) 12)[dD j]? = some ((valD fa ns.length ca bf ofs nf cf kb) γ j) := fun j hj => fillD_at (hd j hj) (by rw [hsz]; exact lo j hj) _ (fun a ha e => key a ha j hj e) hj
  exact hend _ _ _ _ (hJk _ _ _ _ hI.j k5) ((hI.got (hd 6 (by omega))).keep k5 (hJ _ _ hI.j).1) (by rw [fillD_size]; exact hsz) (at' 10 (by omega)) (at' 11 (by omega)) (fun m hm => fillD_else _ fun j hj _ => hm j hj)

end
end Go.Proofs.Ytblpmdolclalnaa
