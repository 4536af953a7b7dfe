/- floatBits of the library's decimal: the nearest number. -/
import Derived.Test.YtjapgpmoojfhnaaGreatDoorB32
set_option maxHeartbeats 16000000
set_option maxRecDepth 100000
set_option linter.unusedSimpArgs false
set_option linter.unusedVariables false
namespace Go
section
variable {P : Program} {a : Act} {w : World} {Q : Exit → Act → World → Prop}
theorem wp_scope_labels {c : Code} (h : c.wp P (Exit.labels P c Q) a w) : (Code.scope c).wp P Q a w := by
 intro b k cs
 obtain ⟨e, a₁, w₁, hq, harr⟩ := h b (.inScope c :: k) cs
 cases e with
 | normal => exact ⟨.normal, a₁, w₁, hq, .head step_scope (Steps.trans harr (.one step_inScope))⟩
 | exit id => exact ⟨.exit id, a₁, w₁, hq, fun k' hk => .head step_scope (harr k' (by simp [exitTo, hk]))⟩
 | goto l =>
   obtain ⟨r, hf, hr⟩ := hq
   have hg : gotoIn l (.inScope c :: k) = some (.code r :: .inScope c :: k) := by simp [gotoIn, hf]
   obtain ⟨e, a₂, w₂, hq₂, harr₂⟩ := hr b (.inScope c :: k) cs
   have go : ∀ {t}, Arrives P (lone (b.at a₁ (.code r :: .inScope c :: k)) cs w₁) b k cs e a₂ w₂ → t = lone (b.at a (.code (.scope c) :: k)) cs w → Arrives P t b k cs e a₂ w₂ := fun h2 e2 => e2 ▸ .of_steps (.head step_scope (harr _ hg)) h2
   cases e with
   | normal => exact ⟨.normal, a₂, w₂, hq₂, go (Steps.trans harr₂ (.one step_inScope)) rfl⟩
   | exit id => exact ⟨.exit id, a₂, w₂, hq₂, go (fun k' hk => harr₂ k' (by simp [exitTo, hk])) rfl⟩
   | goto l => exact hq₂.elim
   | ret => exact ⟨_, a₂, w₂, hq₂, go harr₂ rfl⟩
   | panic ch => exact ⟨_, a₂, w₂, hq₂, go harr₂ rfl⟩
   | outgrown => exact ⟨_, a₂, w₂, hq₂, go harr₂ rfl⟩
 | ret => exact ⟨_, a₁, w₁, hq, .of_steps (.one step_scope) harr⟩
 | panic ch => exact ⟨_, a₁, w₁, hq, .of_steps (.one step_scope) harr⟩
 | outgrown => exact ⟨_, a₁, w₁, hq, .of_steps (.one step_scope) harr⟩
end
end Go
namespace Go.Proofs.YtjapgpmoojfhnaaGreatDoor
open Go.RowKit Go.Lib
theorem RsEnd.one {M : Nat} {p dp0 s dp : Int} {j nd N k X : Nat} {D : List Nat} {t g : Bool} {w w' : World} {x : Ending} (h : Fl.FbS M p dp0 s j D nd dp t N) (hx : M * Fl.sc p < Fl.sc 310) (hdp : 0 < dp) (hs : s ≤ 0) (h0 : 0 < dp0) (hk1 : 1 ≤ k) (hk : k ≤ 27) (hE : RsEnd X D N nd k dp g t w x w') :
 x = .returned (.tuple #[]) ∧ ∃ D1 nd1 dp1 t1 N1, Fl.FbS M p dp0 (s - k) (j + 1) D1 nd1 dp1 t1 N1 ∧ -1030 < s ∧ DcAt w' X D1 nd1 dp1 g t1 ∧ Below X w w' := by
 obtain ⟨rfl, D1, r, wd, t1, a1, a2, a3, a4, a5, a6, a7, a8, a9, a10⟩ := hE
 obtain ⟨N1, b1, b2, b3⟩ := h.one hx hdp hs h0 hk1 hk a1 a2 a3 a4 a5 a6 a7
 rw [b2] at a9
 exact ⟨rfl, D1, _, _, t1, N1, b1, b3, a9, a10⟩
theorem fb_any (M : Nat) (dp0 : Int) (X : Nat) (D0 : List Nat) (nd0 : Nat) (g : Bool) (B C : Nat × Nat) (w : World) (hnum : Fl.IsNum D0 nd0 M) (h0 : M % 10 ≠ 0) (ht : 10 ^ nd0 ≤ 10 * M) (hn : nd0 ≤ 400) (hlo : -330 ≤ dp0) (hhi : dp0 ≤ 400) (hF : FbT w B C X) (hX : DcAt w X D0 nd0 dp0 g false) :
 Calls Tryz.prog 196 #[.pointer (some ⟨X, 0, none⟩), .pointer (some ⟨9, 0, none⟩)] w (FbEnd M (dp0 - nd0) X g w) := by
 have x0 := hX.c0
 have x1 := hX.c1
 have hst := Fl.DcS.start hnum h0 ht (by omega) (show -3000 ≤ dp0 - nd0 by omega)
 have hpos := hst.nd_pos
 obtain ⟨z1, z2⟩ := Fl.start_size (dp := dp0) hnum ht (by omega) hpos
 obtain ⟨p, hp⟩ : ∃ p, dp0 - nd0 = p := ⟨_, rfl⟩
 rw [hp] at hst z1 z2 ⊢
 have e0 : ((nd0 : Int) == 0) = false := by rw [beq_eq_false_iff_ne]; omega
 have e0' : (nd0 == 0) = false := by rw [beq_eq_false_iff_ne]; omega
 have d2 : decide (dp0 < -330) = false := decide_eq_false (by omega)
 have HH := Lib.hid (And.intro hF hX)
 by_cases hfar : 310 < dp0
 · have d1 : decide (310 < dp0) = true := decide_eq_true hfar
   have near := Fl.near_far (M := M) (p := p) (by omega) (Nat.le_trans ((Fl.sc_le (by omega) (by omega)).2 (by omega)) z1)
   have HN := Lib.hid near
   have x9 : 9 < X := by have := hF.fb.x18; omega
   clear hF hX hst hnum ht h0 z1 z2 hfar near hn hlo hhi hp hpos
   go_enter Tryz.func196, Tryz.ntmps196
   go_wp2_with fail
   refine wp_scope_labels (c := body196) ?_
   conv => arg 2; whnf
   go_wp2_with fail
   go_step3
   refine ⟨lab196 1, by kernel_rfl, ?_⟩
   exact fb_inf X D0 nd0 dp0 g false w _ _ _ _ _ _ _ _ _ _ _ _ _ _ _ _ _ _ _ _ _ _ _ _ _ _ _ _ _ _ _ _ _ _ _ _ _ _ _ _ _ _ _ _ _ _ _ _ _ _ _ _ _ _ _ _ _ _ _ _ _ _ _ _ _ _ _ _ _ _ _ _ _ _ _ _ _ _ _ _ _ _ _ _ _ _ _ _ _ _ _ _ _ _ _ _ _ _ _ _ _ _ _ _ _ _ _ _ _ _ _ _ _ _ _ _ _ _ _ _ _ _ _ _ _ _ _ _ _ _ _ _ _ _ _ _ _ _ _ _ _ _ _ _ _ _ _ _ _ _ _ _ _ _ _ _ _ _ _ _ _ _ _ _ _ _ _ _ _ _ _ _ _ _ _ _ _ _ _ _ _ _ _ _ _ _ _ _ _ _ _ _ _ _ _ _ _ _ _ _ _ _ _ _ _ _ _ _ _ _ _ _ _ _ _ _ _ _ _ _ _ _ _ _ _ _ _ _ _ _ _ _ _ _ _ _ _ _ _ _ _ _ (R := FbEnd M p X g w) (fun _ _ h => ⟨_, HN.out, h⟩) HH.out.1.fb.info HH.out.2 x9 (Below.refl X _)
 · have d1 : decide (310 < dp0) = false := decide_eq_false hfar
   have hx1 : M * Fl.sc p < Fl.sc 310 := Nat.lt_of_lt_of_le z2 ((Fl.sc_le (by omega) (by omega)).2 (by omega))
   have hx2 : Fl.sc (-331) ≤ M * Fl.sc p := Nat.le_trans ((Fl.sc_le (by omega) (by omega)).2 (by omega)) z1
   have HX3 := Lib.hid (And.intro hx1 hx2)
   have HB0 := Lib.hid (show Fl.FbS M p dp0 0 0 D0 nd0 dp0 false M from ⟨hst, fun h => absurd h (by decide), by decide, by omega, by omega, .inl (Int.le_refl _)⟩)
   have HP := Lib.hid (show -731 ≤ p ∧ (0 < dp0 → -400 ≤ p) from ⟨by omega, fun h => by omega⟩)
   clear hF hX hst hnum ht h0 z1 z2 hfar hx1 hx2 hn hlo hhi hp hpos
   go_enter Tryz.func196, Tryz.ntmps196
   go_wp2_with fail
   refine wp_scope_labels (c := body196) ?_
   conv => arg 2; whnf
   go_upto_block 0 with fail
   clear x0 x1 e0 e0' d1 d2
   go_cut [6, 8] (fun t6 _ wx => ∃ (s : Int) (j : Nat) (D : List Nat) (nd : Nat) (dp : Int) (t : Bool) (N : Nat), t6 = .int .i64 (-s) ∧ Fl.FbS M p dp0 s j D nd dp t N ∧ dp ≤ 0 ∧ s ≤ 0 ∧ (j : Int) ≤ 2114 + s ∧ DcAt wx X D nd dp g t ∧ Below X w wx)
   case first =>
    go_upto_region 11 with fail
    go_loopg [6, 8] 1057 (fun f t6 _ wx => ∃ (s : Int) (j : Nat) (D : List Nat) (nd : Nat) (dp : Int) (t : Bool) (N : Nat), t6 = .int .i64 (-s) ∧ Fl.FbS M p dp0 s j D nd dp t N ∧ (0 < dp → 0 < dp0) ∧ s ≤ 0 ∧ (j : Int) ≤ -s ∧ f = (1057 + s).toNat ∧ DcAt wx X D nd dp g t ∧ Below X w wx)
    case atStart => exact ⟨0, 0, D0, nd0, dp0, false, M, rfl, HB0.out, id, by decide, by decide, rfl, HH.out.2, Below.refl _ _⟩
    case round =>
     obtain ⟨s, j, D, nd, dp, t, N, rfl, hst, hdd, hs, hj, hf, hW, hbx⟩ := hrel
     have x1 := hW.c1
     have hlo := hst.lo
     have HS := Lib.hid hst
     have HW := Lib.hid (And.intro (HH.out.1.on hbx) (And.intro hW hbx))
     clear hst hW hbx
     have y0 := HW.out.1.pw.ptr
     by_cases c0 : 0 < dp
     · have d0 : decide (0 < dp) = true := decide_eq_true c0
       have HC := Lib.hid (And.intro c0 (hdd c0))
       obtain ⟨k0, hk0⟩ : ∃ k0 : Nat, dp = (k0 : Int) := ⟨dp.toNat, by omega⟩
       subst hk0
       have d0' : decide (0 < k0) = true := decide_eq_true (by omega)
       by_cases c9 : 9 ≤ k0
       · have d9 : decide ((9 : Int) ≤ (k0 : Int)) = true := decide_eq_true (by omega)
         have d9' : decide (9 ≤ k0) = true := decide_eq_true c9
         clear c9 c0 hdd
         go_upto_region 13 with fail
         go_quiet (fail)
         rename_i nq _
         have h1 := HW.out.1.on (below_drewN (Below.refl X wr) nq)
         have h2 := HW.out.2.1.drewN nq
         have h3 := below_drewN HW.out.2.2 nq
         generalize wr.drewN nq = wq at h1 h2 h3 ⊢
         have HW2 := Lib.hid (And.intro h1 (And.intro h2 h3))
         clear h1 h2 h3 x1 y0
         have x1 := HW2.out.2.1.c1
         have y0 := HW2.out.1.pw.ptr
         go_wp2_with fail
         refine (shift_right X D nd N 27 k0 g t HS.out.st.num HS.out.st.nd_pos HS.out.st.le (by decide) (by decide) (by have := HS.out.dlo; omega) (by have := HS.out.dhi; omega) HS.out.st.n0 _ HW2.out.2.1).mono ?_
         intro e w1 h1
         obtain ⟨rfl, D1, nd1, dp1, t1, N1, q1, q2, q4, q5⟩ := RsEnd.one (k := 27) HS.out HX3.out.1 HC.out.1 hs HC.out.2 (by decide) (by decide) h1
         have HF := Lib.hid (And.intro q1 (And.intro q4 (HW2.out.2.2.trans q5)))
         have w9 : IntKind.i64.wrap (-s + (27 : Nat)) = -(s - (27 : Nat)) := by rw [IntKind.wrap_i64]; omega
         have HM := Lib.hid (show (1057 + (s - (27 : Nat))).toNat < gk ∧ ((j + 1 : Nat) : Int) ≤ -(s - (27 : Nat)) ∧ -1057 ≤ s ∧ s - (27 : Nat) ≤ 0 from ⟨by omega, by omega, hlo, by omega⟩)
         clear q1 q2 q4 q5 h1 x1 y0 hj hf hlo
         go_wp2_with fail
         go_roundg (1057 + (s - (27 : Nat))).toNat
         case measure => exact HM.out.1
         case rel => exact ⟨s - (27 : Nat), j + 1, D1, nd1, dp1, t1, N1, by first | exact congrArg (Value.int .i64) w9 | rfl | (refine congrArg (Value.int .i64) ?_; have := HM.out.2.2; unfold wrap64; omega), HF.out.1, fun _ => HC.out.2, HM.out.2.2.2, HM.out.2.1, rfl, HF.out.2.1, HF.out.2.2⟩
       · have d9 : decide ((9 : Int) ≤ (k0 : Int)) = false := decide_eq_false (by omega)
         have d9' : decide (9 ≤ k0) = false := decide_eq_false c9
         have y1 := HW.out.1.pw.row k0 (by omega)
         have i0 : (0 : Int) ≤ (k0 : Int) := by omega
         have i1 : (k0 : Int) < 9 := by omega
         obtain ⟨n, hn⟩ : ∃ n, Fl.powt k0 = n := ⟨_, rfl⟩
         obtain ⟨n1, n2, _⟩ := Fl.powt_ok k0
         rw [hn] at y1 n1 n2
         have w8 : IntKind.i64.wrap (-(n : Int)) = -(n : Int) := by rw [IntKind.wrap_i64]; omega
         have H9 := Lib.hid hn
         clear c9 c0 hdd hn
         go_upto_region 13 with fail
         go_quiet (fail)
         rename_i nq _
         have h1 := HW.out.1.on (below_drewN (Below.refl X wr) nq)
         have h2 := HW.out.2.1.drewN nq
         have h3 := below_drewN HW.out.2.2 nq
         generalize wr.drewN nq = wq at h1 h2 h3 ⊢
         have HW2 := Lib.hid (And.intro h1 (And.intro h2 h3))
         clear h1 h2 h3 x1 y0 y1
         have x1 := HW2.out.2.1.c1
         have y0 := HW2.out.1.pw.ptr
         have y1 := HW2.out.1.pw.row k0 (by omega)
         rw [H9.out] at y1
         go_upto_region 15 with fail
         go_quiet (fail)
         rename_i nq _
         have h1 := HW2.out.1.on (below_drewN (Below.refl X wq) nq)
         have h2 := HW2.out.2.1.drewN nq
         have h3 := below_drewN HW2.out.2.2 nq
         generalize wq.drewN nq = wz at h1 h2 h3 ⊢
         have HW3 := Lib.hid (And.intro h1 (And.intro h2 h3))
         clear h1 h2 h3 x1 y0 y1
         have x1 := HW3.out.2.1.c1
         have y0 := HW3.out.1.pw.ptr
         go_wp2_with fail
         refine (shift_right X D nd N n k0 g t HS.out.st.num HS.out.st.nd_pos HS.out.st.le (by exact n1) (by omega) (by have := HS.out.dlo; omega) (by have := HS.out.dhi; omega) HS.out.st.n0 _ HW3.out.2.1).mono ?_
         intro e w1 h1
         obtain ⟨rfl, D1, nd1, dp1, t1, N1, q1, q2, q4, q5⟩ := RsEnd.one (k := n) HS.out HX3.out.1 HC.out.1 hs HC.out.2 (by exact n1) (by exact n2) h1
         have HF := Lib.hid (And.intro q1 (And.intro q4 (HW3.out.2.2.trans q5)))
         have w9 : IntKind.i64.wrap (-s + (n : Nat)) = -(s - (n : Nat)) := by rw [IntKind.wrap_i64]; omega
         have HM := Lib.hid (show (1057 + (s - (n : Nat))).toNat < gk ∧ ((j + 1 : Nat) : Int) ≤ -(s - (n : Nat)) ∧ -1057 ≤ s ∧ s - (n : Nat) ≤ 0 from ⟨by omega, by omega, hlo, by omega⟩)
         clear q1 q2 q4 q5 h1 x1 y0 hj hf hlo i0 i1 n1 n2 d0 d9 d9'
         go_wp2_with fail
         go_roundg (1057 + (s - (n : Nat))).toNat
         case measure => exact HM.out.1
         case rel => exact ⟨s - (n : Nat), j + 1, D1, nd1, dp1, t1, N1, by first | exact congrArg (Value.int .i64) w9 | rfl | (refine congrArg (Value.int .i64) ?_; have := HM.out.2.2; unfold wrap64; omega), HF.out.1, fun _ => HC.out.2, HM.out.2.2.2, HM.out.2.1, rfl, HF.out.2.1, HF.out.2.2⟩
     · have d0 : decide (0 < dp) = false := decide_eq_false c0
       have HM := Lib.hid (show dp ≤ 0 ∧ (j : Int) ≤ 2114 + s from ⟨by omega, by omega⟩)
       clear hdd hj hf hlo c0
       go_wp2_with fail
       go_meet
       exact ⟨s, j, D, nd, dp, t, N, rfl, HS.out, HM.out.1, hs, HM.out.2, HW.out.2.1, HW.out.2.2⟩
   case rest =>
    obtain ⟨s, j, D, nd, dp, t, N, rfl, a1, a2, a3, a4, a5, a6⟩ := hcut
    exact fb_two M p s dp0 dp X D nd N j g t B C w _ _ _ _ _ _ _ _ _ _ _ _ _ _ _ _ _ _ _ _ _ _ _ _ _ _ _ _ _ _ _ _ _ _ _ _ _ _ _ _ _ _ _ _ _ _ _ _ _ _ _ _ _ _ _ _ _ _ _ _ _ _ _ _ _ _ _ _ _ _ _ _ _ _ _ _ _ _ _ _ _ _ _ _ _ _ _ _ _ _ _ _ _ _ _ _ _ _ _ _ _ _ _ _ _ _ _ _ _ _ _ _ _ _ _ _ _ _ _ _ _ _ _ _ _ _ _ _ _ _ _ _ _ _ _ _ _ _ _ _ _ _ _ _ _ _ _ _ _ _ _ _ _ _ _ _ _ _ _ _ _ _ _ _ _ _ _ _ _ _ _ _ _ _ _ _ _ _ _ _ _ _ _ _ _ _ _ _ _ _ _ _ _ _ _ _ _ _ _ _ _ _ _ _ _ _ _ _ _ _ _ _ _ _ _ _ _ _ _ _ _ _ _ _ _ _ _ _ _ _ _ _ _ _ _ _ _ _ _ _ (by assumption) a1 a2 a3 a4 HP.out.1 HP.out.2 HX3.out.2 HH.out.1 a5 a6
end Go.Proofs.YtjapgpmoojfhnaaGreatDoor
