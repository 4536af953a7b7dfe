/- The law StageOrder, walked whole, goroutine 0 coming to its return with true. What every row's proof of this seat shares: slices among the arguments; the last step of a law that makes memory and turns none of the arguments'. -/
import Derived.Test.YtblpmdolclalnaaD26
import Derived.Test.YtblpmdolclalnaaD28
import Derived.Test.YtblpmdolclalnaaRows
import Derived.ProofKit
import Derived.OpenShut
import Derived.ChangeSlices
import Derived.SliceStrings
import Derived.WideShapes
import Derived.Conc.LeavingOf
import Derived.Conc.Holds
namespace Go.Proofs.Ytblpmdolclalnaa
open Go.Conc Go.RowKit Go.Conc.Lib Go.ConcR.Gen Go.ConcN.Gen
section
variable {Shun S S' : Nat → Prop} {w w₁ w₂ : World} {cs : List Frame} {k em bm m c9 c1 kl cap capf N0 : Nat} {kei : Nat → Nat} {ns : List Int} {v11 : Value} {f9 f1 fa ff : Option Addr} {Q : (Nat → Prop) → Goroutine → World → Prop}
set_option maxRecDepth 100000 in
set_option maxHeartbeats 8000000 in
theorem re3 {Stop : Goroutine → World → Prop}  {F0 : World → Prop} (hF : F0 w) (s0 : Steady F0) {T : Array Value} (hs : T.size = 103)
    (hgo : ∀ T k w, F0 w → T.size = 103 → T[4]? = some (.bool true) → Stop (G { (base 5).at ⟨T, []⟩ k with mode := .returning } []) w) :
    Goes Try.prog true AtRel (SD Shun) Stop 60 (G ((base 5).at ⟨T.setIfInBounds 102 (.bool true), []⟩ (.inRegion ops36 [1] :: [.code (cS (tl5 11))])) []) w := by
  have hD : ∀ w, SD Shun w w #[] := sd_idle
  have rl : ∀ {w w₁ : World}, F0 w → AtRel w w₁ → F0 w₁ := fun h r => s0.rel h r
  replace hgo := Hd.mk hgo
  obtain ⟨v, rfl⟩ := array103 T hs
  clear hs
  simp only [tl5, body5, ops36, cO, cS, cF, Try.f5, Option.getD_some] at hgo ⊢
  try walk_nrm
  repeat ((first | ((with_reducible refine g_opG ?_); (first | (refine g_unw hD rfl rfl (fun _ h₁ => ?_); replace hF := rl hF h₁; clear h₁; walk_nrm) | (refine Goes.step rfl (fun _ h₁ => ?_); replace hF := rl hF h₁; clear h₁; refine goes_oper_k rfl rfl (by k_ne) (fun K hK => ?_); go_simp; refine hK _ _ ⟨?_, ?_⟩; (focus (refine g_idle hD ?_; intro e he; have hm := mem_listed he; simp [go_sem, *] at hm; done)); clear hK K; try w_num))) | ((first | (with_reducible first | refine g_k true true hD rfl ?_ | refine g_ret hD ?_ | refine g_end hD ?_) | ((with_reducible refine g_ct hD ?_ ?_); (focus exact rfl)) | ((with_reducible refine g_cf hD ?_ ?_); (focus exact rfl))); intro _ h₁; replace hF := rl hF h₁; clear h₁) | ((with_reducible refine g_reg hD (fun _ h₁ => ?_)); replace hF := rl hF h₁; clear h₁; simp only [regN]) | ((with_reducible refine g_exit hD (k' := ?_) ?_ (fun _ h₁ => ?_)); rotate_left; (focus exact rfl); replace hF := rl hF h₁; clear h₁)))
  exact Goes.stop fun w₃ h₃ => hgo.out _ _ _ (rl hF h₃) rfl rfl


theorem OrdIn.steady : Steady (fun w => OrdIn S w kl k em bm kei ns fa ff cap capf) := fun _ _ h => ⟨h.few, h.small, h.me, h.ec, h.se, h.bc, h.sb, h.ix, h.row, h.fs, h.it, h.ls⟩
/-- Behind a call that turned block bm beside what it kept, bm being new. -/
theorem Keep.past (h : Keep Shun w S w₁) (hS : ∀ b, S' b → S b ∨ w₁.heap.size ≤ b) (ho : Out w₁.heap.size w₁ (fun b _ => S b ∨ b = bm) w₂) (hb : w.heap.size ≤ bm) (h66 : S66 S' w₂) : Keep Shun w S' w₂ := by
  have hno : ∀ b, b < w.heap.size → ¬ Shun b → ¬ (S b ∨ b = bm) := fun b hb' hg hx => hx.elim (h.old hb' hg) fun e => by omega
  refine ⟨fun b hb => ?_, ⟨Nat.le_trans h.out.size ho.size, fun b x hb hg => ?_, fun b hb hg => ?_, fun b c e f hb hc => ?_, ho.os.trans h.out.os, ho.out.trans h.out.out, ho.tape.trans h.out.tape⟩, h66⟩
  · rcases hS b hb with x | x
    · exact h.shun b x
    · exact .inr (Nat.le_trans h.out.size x)
  · exact (ho.cell b x (Nat.lt_of_lt_of_le hb h.out.size) (hno b hb hg)).trans (h.out.cell b x hb hg)
  · exact (ho.blk b (Nat.lt_of_lt_of_le hb h.out.size) fun _ => hno b hb (hg 0)).trans (h.out.blk b hb hg)
  · obtain ⟨c1, h1, h2⟩ := h.out.form b c e f hb hc
    obtain ⟨c2, h3, h4⟩ := ho.form b c1 e f (Nat.lt_of_lt_of_le hb h.out.size) h1
    exact ⟨c2, h3, h4.trans h2⟩

theorem od_loop {s cr : Nat} {fr : Option Addr} (hsk : s < k) (hk : k ≤ 16) (hm : m ≤ 256) (hgo : ∀ T w₁, OD Shun w S em bm k kei (below m) v11 w₁ → T.size = 103 → T[5]? = some (.int .i64 k) → T[6]? = some (ptr em) → T[9]? = some (.slice f9 m c9) → T[11]? = some (.slice f1 m c1) → T[56]? = some (.int .i64 k) → T[57]? = some (.int .i64 (s + 1 : Nat)) → Lone Try.prog N0 Q S (G ((base 5).at ⟨T, []⟩ [.code lp5c, .inLoop lp5c, .inBlock 4, .code (tl5 10)]) cs) w₁) :
    ∀ (q j : Nat) (T : Array Value) (w₁ : World), j + q = m → OT Shun w S em bm k kei (below m) v11 s fr cr w₁ → T.size = 103 → T[5]? = some (.int .i64 k) → T[6]? = some (ptr em) → T[9]? = some (.slice f9 m c9) → T[11]? = some (.slice f1 m c1) → T[56]? = some (.int .i64 k) → T[57]? = some (.int .i64 s) → T[13]? = some (.int .i64 s) → T[69]? = some (.int .i64 m) → T[70]? = some (.int .i64 j) → Lone Try.prog N0 Q S (G ((base 5).at ⟨T, []⟩ [.code lp5d, .inLoop lp5d, .inBlock 6, .inBlock 5, .code (cS (cS (cS lp5c))), .inLoop lp5c, .inBlock 4, .code (tl5 10)]) cs) w₁ := by
  intro q
  induction q with
  | zero =>
    intro j T w₁ hj hF hs t5 t6 t9 t11 t56 t57 t13 t69 t70
    exact Lone.on (n := 80) (rd2 hk hsk hj hs t5 t6 t9 t11 t56 t57 t13 t69 t70 hF fun T w₂ hF hs t5 t6 t9 t11 t56 t57 _ => hgo T w₂ hF.od hs t5 t6 t9 t11 t56 t57)
  | succ q ih =>
    intro j T w₁ hj hF hs t5 t6 t9 t11 t56 t57 t13 t69 t70
    exact Lone.on (n := 80) (rd1 hsk hk hm (by omega) hs t5 t6 t9 t11 t56 t57 t13 t69 t70 hF fun T w₂ hF hs t5 t6 t9 t11 t56 t57 t13 t69 t70 _ => ih (j + 1) T w₂ (by omega) hF hs t5 t6 t9 t11 t56 t57 t13 t69 t70)
theorem oc_loop (hk : k ≤ 16) (hm : m ≤ 256) (hgo : ∀ T w₁, OD Shun w S em bm k kei (below m) v11 w₁ → T.size = 103 → T[5]? = some (.int .i64 k) → T[11]? = some (.slice f1 m c1) → T[88]? = some (.int .i64 m) → T[89]? = some (.int .i64 (0 : Nat)) → Lone Try.prog N0 Q S (G ((base 5).at ⟨T, []⟩ [.code lp5e, .inLoop lp5e, .inBlock 8, .code (tl5 11)]) cs) w₁) :
    ∀ (q s : Nat) (T : Array Value) (w₁ : World), s + q = k → OD Shun w S em bm k kei (below m) v11 w₁ → T.size = 103 → T[5]? = some (.int .i64 k) → T[6]? = some (ptr em) → T[9]? = some (.slice f9 m c9) → T[11]? = some (.slice f1 m c1) → T[56]? = some (.int .i64 k) → T[57]? = some (.int .i64 s) → Lone Try.prog N0 Q S (G ((base 5).at ⟨T, []⟩ [.code lp5c, .inLoop lp5c, .inBlock 4, .code (tl5 10)]) cs) w₁ := by
  intro q
  induction q with
  | zero =>
    intro s T w₁ hj hF hs t5 t6 t9 t11 t56 t57
    exact Lone.on (n := 80) (rc2 hj hs t5 t6 t9 t11 t56 t57 hF fun T w₂ hF hs t5 t11 t88 t89 _ => hgo T w₂ hF hs t5 t11 t88 t89)
  | succ q ih =>
    intro s T w₁ hj hF hs t5 t6 t9 t11 t56 t57
    obtain ⟨fr, cr, hT⟩ := hF.stage (s := s) (by omega)
    exact Lone.on (n := 80) (rc1 (by omega) hk hm hs t5 t6 t9 t11 t56 t57 hT fun T w₂ hF hs t5 t6 t9 t11 t56 t57 t13 t69 t70 _ => od_loop (by omega) hk hm (fun T w₃ hF hs t5 t6 t9 t11 t56 t57 => ih (s + 1) T w₃ (by omega) hF hs t5 t6 t9 t11 t56 t57) m 0 T w₂ (by omega) hF hs t5 t6 t9 t11 t56 t57 t13 t69 t70)
theorem oe_loop (hk : k ≤ 16) (hm : m ≤ 256) (hgo : ∀ T w₁, OE Shun w S f1 m k w₁ → T.size = 103 → Lone Try.prog N0 Q S (G ((base 10).at ⟨#[undef, undef, undef, undef, undef, undef, undef, undef, undef, undef, undef, undef, undef, undef, undef, undef, undef, undef, undef, undef, undef, undef, undef, undef, undef, undef, undef, undef, undef, undef, undef, undef, undef, undef, undef, undef, undef, undef, undef, undef, undef, undef, undef, undef, undef, undef, undef, undef, undef], []⟩ [.code body10]) ((base 5).at ⟨T, []⟩ (.inRegion ops36 [0, 1] :: [.code (cS (tl5 11))]) :: cs)) w₁) :
    ∀ (q j : Nat) (T : Array Value) (w₁ : World), j + q = m → OE Shun w S f1 m k w₁ → T.size = 103 → T[5]? = some (.int .i64 k) → T[11]? = some (.slice f1 m c1) → T[88]? = some (.int .i64 m) → T[89]? = some (.int .i64 j) → Lone Try.prog N0 Q S (G ((base 5).at ⟨T, []⟩ [.code lp5e, .inLoop lp5e, .inBlock 8, .code (tl5 11)]) cs) w₁ := by
  intro q
  induction q with
  | zero =>
    intro j T w₁ hj hF hs t5 t11 t88 t89
    exact Lone.on (n := 80) (re2 hj hs t5 t11 t88 t89 hF fun T w₂ hF hs _ => hgo T w₂ hF hs)
  | succ q ih =>
    intro j T w₁ hj hF hs t5 t11 t88 t89
    exact Lone.on (n := 80) (re1 hk hm (by omega) hs t5 t11 t88 t89 hF fun T w₂ hF hs t5 t11 t88 t89 _ => ih (j + 1) T w₂ (by omega) hF hs t5 t11 t88 t89)
end
theorem lawOrder {w : World} {b0 b1 : Int} (h0 : 0 ≤ b0 ∧ b0 < 256) (h1 : 0 ≤ b1 ∧ b1 < 256) :
    Lone Try.prog w.heap.size (LawEnd 5 103 4 w) none0 (G ((base 5).at ⟨#[.int .u8 b0, .int .u8 b1, undef, undef, undef, undef, undef, undef, undef, undef, undef, undef, undef, undef, undef, undef, undef, undef, undef, undef, undef, undef, undef, undef, undef, undef, undef, undef, undef, undef, undef, undef, undef, undef, undef, undef, undef, undef, undef, undef, undef, undef, undef, undef, undef, undef, undef, undef, undef, undef, undef, undef, undef, undef, undef, undef, undef, undef, undef, undef, undef, undef, undef, undef, undef, undef, undef, undef, undef, undef, undef, undef, undef, undef, undef, undef, undef, undef, undef, undef, undef, undef, undef, undef, undef, undef, undef, undef, undef, undef, undef, undef, undef, undef, undef, undef, undef, undef, undef, undef, undef, undef, undef], []⟩ [.code body5]) []) w := by
  have h66 := s66_none w
  obtain ⟨m, rfl⟩ : ∃ m : Nat, b0 = (m : Int) := ⟨b0.toNat, by omega⟩
  obtain ⟨k, hk⟩ : ∃ k : Nat, b1.tmod 6 = (k : Int) := ⟨(b1.tmod 6).toNat, by have := Int.tmod_nonneg 6 h1.1; omega⟩
  have hk6 : k ≤ 16 := by have := Int.tmod_lt_of_pos b1 (show (0 : Int) < 6 by omega); omega
  have hm : m ≤ 256 := by omega
  refine Lone.on (n := 80) (or0 (b0 := m) (b1 := b1) (k := k) h66 ⟨w.drawn, rfl⟩ (by rw [IntKind.wrap_i64]; omega) hk hk6 fun T em bm w1 hB hs t0 t5 t6 t7 t21 t22 _ => ?_)
  have hbm := hB.new.2
  refine oa_loop (b0 := m) hk6 (fun kes vf T w2 hl hF hs t0 t5 t6 t7 t21 t22 => ?_) k 0 [] (.slice none 0 0) T w1 (by omega) rfl ⟨hB, ⟨rfl, .inl ⟨rfl, rfl⟩⟩, fun g hg => (by cases hg), fun s e he => (by cases he)⟩ hs t0 t5 t6 t7 t21 t22
  refine Lone.on (n := 60) (ob0 (F0 := OF none0 w em bm k kes vf) hF OF.steady hs t0 t5 t6 t7 t21 t22 (decide_eq_false (by omega)) (by rw [IntKind.wrap_i64]; omega) fun T w3 hF hs t5 t6 t7 t9 t31 t32 _ => ?_)
  refine ob_loop (m0 := m) (kes := kes) (vf := vf) hm (fun v9 T w4 hF hs t5 t6 t7 t9 t31 t32 => ?_) m 0 (.slice none 0 0) T w3 (by omega) ⟨hF, ⟨rfl, .inl ⟨rfl, rfl⟩⟩, fun g hg => (by cases hg), fun g hg => (by cases hg)⟩ hs t5 t6 t7 t9 t31 t32
  obtain ⟨f9, c9, rfl, _⟩ := got_of hF.row
  obtain ⟨ff, nf, cf, rfl⟩ : ∃ ff nf cf, vf = .slice ff nf cf := by
    rcases hF.f.row.2 with ⟨e, _⟩ | ⟨_, _, _, e, _⟩ <;> exact ⟨_, _, _, e⟩
  rw [below_len] at t9 hF
  refine Lone.on (n := 60) (oc1 (F0 := OL none0 w em bm k kes (.slice ff nf cf) (below m) (.slice f9 m c9)) hF OL.steady hs t5 t6 t7 t9 t31 t32 (decide_eq_false (by omega)) fun T w5 hF hs t5 t6 t7 t9 _ => ?_)
  refine (fn13n (fa := f9) (n := m) (cap := c9) hF.f.b.keep.s66).next hF.f.b.keep.out.size fun S5 g5 w6 h5 => ?_
  obtain ⟨k5, kb, hge, c5, rfl⟩ := h5
  obtain ⟨rfl, hO⟩ := hF.ordIn hl hk6 (by rw [below_len]; omega) (below_len m).symm k5 hge c5
  have K5 := hF.f.b.keep.trans k5
  clear hF
  refine Lone.on (n := 60) (oc2 (kl := kb) (F0 := fun w' => Keep none0 w S5 w' ∧ OrdIn S5 w' kb _ em bm (fun s => kes.getD s 0) (below m) f9 ff c9 cf) ⟨K5, hO⟩ (fun _ d h => ⟨h.1.at d, OrdIn.steady _ d h.2⟩) hs t5 t6 t7 t9 fun T w7 hF hs t5 t6 t9 _ => ?_)
  refine (order_law hF.1.s66 hF.2).next hF.1.out.size fun S7 g7 w8 h7 => ?_
  obtain ⟨hS, ho, h66', v, hG, hX, rfl⟩ := h7
  have K7 := hF.1.past hS ho hbm h66'
  clear hF hO K5
  have hG' := hG
  obtain ⟨f1, c1, rfl, _⟩ := hG
  rw [List.length_map, below_len] at hG' ⊢
  refine Lone.on (n := 60) (oc3 (F0 := OD none0 w S7 em bm _ (fun s => kes.getD s 0) (below m) (.slice f1 m c1)) ⟨K7, hX, hG'⟩ OD.steady hs t5 t6 t9 fun T w9 hF hs t5 t6 t9 t11 t56 t57 _ => ?_)
  refine oc_loop hk6 hm (fun T w10 hF hs t5 t11 t88 t89 => ?_) _ 0 T w9 (Nat.zero_add _) hF hs t5 t6 t9 t11 t56 t57
  obtain ⟨f1', c1', e, hls⟩ := hF.got.ls hF.keep.s66
  simp only [Value.slice.injEq] at e
  obtain ⟨rfl, _, rfl⟩ := e
  refine oe_loop (f1 := f1) hk6 hm (fun T w11 hF hs => ?_) m 0 T w10 (by omega) ⟨hF.keep, hls⟩ hs t5 t11 t88 t89
  refine (awake_call hF.keep.s66).next hF.keep.out.size fun S14 g14 w14 h14 => ?_
  obtain ⟨k14, rfl⟩ := h14
  exact Lone.goes (n := 60) (re3 (F0 := Keep none0 w S14) (hF.keep.trans k14) Keep.steady hs fun T kk w5 hF hs h6 => ⟨hF, T, kk, hs, h6, rfl⟩)
end Go.Proofs.Ytblpmdolclalnaa

namespace Go.Proofs.Ytblpmdolclalnaa
open Go.ChangeShapes Go.WideShapes Go.ChangeAt Go.RowKit Go.Conc

section
variable {H : Type} {enc : TypeId × Value → H} {P : Program}
/-- Arguments read behind the call as before it. -/
theorem trodAll_below (hl : laidOutB P = true) {W W' : World} (hb : Below W.heap.size W W') : ∀ {ts : List TypeId} {vs : List Value} {ds : List (DataW H)} {ps : List MemPlace}, (∀ t ∈ ts, P.readableRec t = true ∧ t < P.types.size) →
    DataW.TrodAll enc P W 0 (fun _ => true) true ts vs ds ps → (∀ x ∈ ps, x.block < W.heap.size) → DataW.TrodAll enc P W' 0 (fun b => decide (b < W.heap.size)) true ts vs ds ps
  | [], vs, ds, ps, _, h, _ => by
    obtain ⟨rfl, rfl, rfl⟩ := trodAll_nil h
    exact trodAll_mk0
  | t :: ts, vs, ds, ps, ht, h, hlt => by
    obtain ⟨v0, vs0, d0, ds0, p0, q0, rfl, rfl, rfl, h0, r0⟩ := trodAll_cons h
    exact trodAll_cons_mk (Below.trod hl (ht t (by simp)).1 (ht t (by simp)).2 h0 hb (fun x hx => hlt x (by simp [hx])))
      (trodAll_below hl hb (fun t' h' => ht t' (by simp [h'])) r0 (fun x hx => hlt x (by simp [hx])))

theorem post_keep {f : Func} {s : ChangeSpec} {apart fresh handsOn : Bool} {W W' : World} {args : Array Value} {v : Value} {ds gs : List (DataW H)} {before : List MemPlace}
    (hW : DataW.Whole enc P f.params.toList s.vars apart W args.toList ds gs before) (hv0 : s.vars = [])
    (hres : ∀ (b : Nat) (sp : Nat → Bool) (hd : Bool), DataW.TrodAll enc P W' b sp hd f.resultTypes.toList (v.resultList f.resultTypes.size) (s.fn H (ds ++ gs)).results [])
    (hsame : (s.fn H (ds ++ gs)).args = ds) (hnov : (s.fn H (ds ++ gs)).vars = [])
    (hl : laidOutB P = true) (ht : ∀ t ∈ f.params.toList, P.readableRec t = true ∧ t < P.types.size) (hb : Below W.heap.size W W') :
    s.post enc P f apart fresh handsOn false W args v W' := by
  have hlt : ∀ p ∈ before, p.block < W.heap.size := fun p hp => hW.lt p hp
  have hW2 := hW
  obtain ⟨p, q, hA, hV, rfl, _, _⟩ := hW2
  rw [hv0] at hV
  obtain ⟨rfl, rfl⟩ := trodVars_none hV
  have hargs : DataW.TrodAll enc P W' 0 (fun b => decide (b < W.heap.size)) true f.params.toList args.toList (s.fn H (ds ++ [])).args p := by
    rw [hsame]
    exact trodAll_below hl hb ht hA (fun x hx => hlt x (by simp [hx]))
  refine ⟨ds, [], p ++ [], [], p, [], hW, hres _ _ _, hargs, ?_, World.keptBut_mono (fun x hx => ⟨hx, ?_⟩) (hb.frame (· ∈ p ++ [])), fun h => by cases h⟩
  · rw [hv0, hnov]; rfl
  · exact .inr (by simpa using hx)
end
theorem Try.own : ownKnob Try.prog.godebug = none := by kernel_rfl
theorem Try.laidOut : laidOutB Try.prog = true := by kernel_rfl
theorem PostL.below {w w' : World} {v : Value} (h : PostL w v w') : v = .bool true ∧ Below w.heap.size w w' := ⟨h.1, h.2.1, h.2.2.1, h.2.2.2.1, h.2.2.2.2.1, h.2.2.2.2.2⟩

theorem u8_range {x : Int} (h : (Lit.int .u8 x).wf = true) : 0 ≤ x ∧ x < 256 := by
  have h2 : IntKind.u8.min ≤ x ∧ x ≤ IntKind.u8.max := by simpa [Lit.wf] using h
  have e1 : IntKind.u8.min = 0 := by decide
  have e2 : IntKind.u8.max = 255 := by decide
  omega
end Go.Proofs.Ytblpmdolclalnaa
