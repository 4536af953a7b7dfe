/- The law StageMaps: walked whole, goroutine 0 coming to its return with true; the run. -/
import Derived.Test.YtblpmdolclalnaaB27
namespace Go.Proofs.Ytblpmdolclalnaa
open Go.Conc

/-- Nothing is shunned at the beginning. -/
abbrev none0 : Nat → Prop := fun _ => False
theorem s66_none (w : World) : S66 none0 w := fun _ h => h.elim
/-- Goroutine 0 at a law's return. -/
def LawEnd (f n r : Nat) (w : World) (S : Nat → Prop) (g : Goroutine) (w' : World) : Prop :=
  Keep none0 w S w' ∧ ∃ T k, T.size = n ∧ T[r]? = some (.bool true) ∧ g = G { (base f).at ⟨T, []⟩ k with mode := .returning } []
/-- What a law leaves. -/
def PostL (w : World) (v : Value) (w' : World) : Prop := v = .bool true ∧ w'.os = w.os ∧ w'.tape = w.tape ∧ w'.output = w.output ∧ w.heap.size ≤ w'.heap.size ∧ ∀ b, b < w.heap.size → w'.heap[b]? = w.heap[b]?
theorem law_ends {f n r : Nat} {fn : Func} {w : World} {a : Goroutine} (hi : Try.prog.inits.idxOf? f = none) (hf : Try.prog.funcs[f]? = some fn) (hr : fn.results = #[.tmp r]) (h : Lone Try.prog w.heap.size (LawEnd f n r w) none0 a w) : Ends Try.prog (PostL w) (crowd #[a] w none) #[] := by
  refine Lone.ends (N0 := w.heap.size) (Shun := none0) (a := a) (w := w) (h.imp fun S g w' _ hE d => ?_) rfl (rest_start Try.prog a w)
  obtain ⟨hk, T, k, _, hv, rfl⟩ := hE
  exact ⟨rfl, _, #[], ended1 rfl hi hf hr hv, by simp, rfl, hk.out.os, hk.out.tape, hk.out.out, hk.out.size, fun b hb => hk.out.blk b hb fun _ h => h⟩

theorem lawMaps {w : World} {fa : Option Addr} {cap : Nat} {ns : List Int} {c k : Int} (hc : 0 ≤ c ∧ c < 256) (hL : Ls none0 fa (ints ns) w) (hlen : ns.length < 9223372036854775808) :
    Lone Try.prog w.heap.size (LawEnd 3 50 6 w) none0 (G ((base 3).at ⟨#[.slice fa ns.length cap, .int .u8 c, .int .i64 k, undef, undef, undef, undef, undef, undef, undef, undef, undef, undef, undef, undef, undef, undef, undef, undef, undef, undef, undef, undef, undef, undef, undef, undef, undef, undef, undef, undef, undef, undef, undef, undef, undef, undef, undef, undef, undef, undef, undef, undef, undef, undef, undef, undef, undef, undef, undef], []⟩ [.code body3]) []) w := by
  have h66 := s66_none w
  refine Lone.on (n := 60) (ma0 (F0 := AtRel w) ⟨w.drawn, rfl⟩ AtRel.steady fun T w1 hF hs t0 t1 t2 _ => ?_)
  have K1 := keep_refl_at h66 hF
  have L1 : Ls none0 fa (ints ns) w1 := hL.keep K1
  clear hF
  refine (small_call (N0 := w.heap.size) L1 hlen).bind fun S g w2 _ h => ?_
  obtain ⟨rfl, r2, rfl⟩ := h
  have K2 : Keep none0 w none0 w2 := by obtain ⟨d, rfl⟩ := r2; exact K1.at d
  cases hsm : smallB ns with
  | false =>
    refine Lone.on (n := 60) (ma1 (F0 := Keep none0 w none0) K2 Keep.steady hs fun T w3 hF hs _ => ?_)
    refine (awake_call hF.s66).next hF.out.size fun S4 g4 w4 h4 => ?_
    obtain ⟨k4, rfl⟩ := h4
    exact Lone.goes (n := 60) (ma1b (F0 := Keep none0 w S4) (hF.trans k4) Keep.steady hs fun T kk w5 hF hs h6 => ⟨hF, T, kk, hs, h6, rfl⟩)
  | true =>
    have hn : ns.length ≤ 300 := by
      simp only [smallB, Bool.and_eq_true, decide_eq_true_eq] at hsm
      exact hsm.2
    refine Lone.on (n := 60) (ma2 (F0 := fun w' => Keep none0 w none0 w' ∧ Ls none0 fa (ints ns) w') ⟨K2, hL.keep K2⟩ (fun _ d h => ⟨h.1.at d, h.2⟩) hs t0 t1 t2 fun T w3 hF hs t0 t1 t2 t14 _ => ?_)
    refine (fn12 (a := c) hF.1.s66).next hF.1.out.size fun S4 g4 w4 h4 => ?_
    obtain ⟨k4, kb, c4, rfl⟩ := h4
    refine Lone.on (n := 60) (ma3 (kb := kb) (F0 := fun w' => Keep none0 w S4 w' ∧ Ls S4 fa (ints ns) w' ∧ Cel S4 kb (.int .u8 c) w') ⟨hF.1.trans k4, hF.2.keep k4, c4⟩ (fun _ d h => ⟨h.1.at d, h.2⟩) hs t0 t1 t2 t14 fun T w5 hF hs t0 t1 t2 t14 t16 _ => ?_)
    refine (fn13 (fa := fa) (n := ns.length) (cap := cap) hF.1.s66).next hF.1.out.size fun S6 g6 w6 h6 => ?_
    obtain ⟨k6, kl, c6, rfl⟩ := h6
    refine Lone.on (n := 60) (ma4 (kb := kb) (kl := kl) (F0 := fun w' => Keep none0 w S6 w' ∧ Ls S6 fa (ints ns) w' ∧ Cel S6 kb (.int .u8 c) w' ∧ Cel S6 kl (.slice fa ns.length cap) w') ⟨hF.1.trans k6, hF.2.1.keep k6, hF.2.2.keep k6, c6⟩ (fun _ d h => ⟨h.1.at d, h.2⟩) hs t0 t1 t2 t14 t16 fun T w7 hF hs t0 t1 t2 _ => ?_)
    by_cases hk : 1 ≤ k ∧ k ≤ 16
    · obtain ⟨K, rfl⟩ : ∃ K : Nat, k = (K : Int) := ⟨k.toNat, by omega⟩
      refine (map_law (K := K) (c := c) (ns := ns) hF.1.s66 hc (by omega) (by omega) (by omega) hF.2.2.1 hF.2.2.2 hF.2.1).next hF.1.out.size fun S8 g8 w8 h8 => ?_
      obtain ⟨k8, v1, r1, rfl⟩ := h8
      refine Lone.on (n := 60) (ma5 (v1 := v1) (F0 := fun w' => Keep none0 w S8 w' ∧ Ls S8 fa (ints ns) w' ∧ Got w' v1 (ns.map (applyP c))) ⟨hF.1.trans k8, hF.2.1.keep k8, r1⟩ (fun _ d h => ⟨h.1.at d, h.2⟩) hs t0 t1 t2 (decide_eq_false (by omega)) (decide_eq_false (by omega)) fun T w9 hF hs t7 t8 t38 _ => ?_)
      refine (refmap_call (N0 := w.heap.size) hc hF.1.s66 hF.2.1 (by omega)).bind fun S10 g10 w10 _ h10 => ?_
      obtain ⟨rfl, vo, hR, rfl⟩ := h10
      have A := hF.2.2.keep hR.keep hF.1.s66
      have B : Got w10 vo (ns.map (applyP c)) := got_of hR.row
      have K10 := hF.1.trans hR.keep
      clear hF hR
      obtain ⟨f1, c1, rfl, l1⟩ := A.ls K10.s66
      obtain ⟨f2, c2, rfl, l2⟩ := B.ls K10.s66
      refine Lone.on (n := 60) (ma6 (fa := f1) (ca := c1) (fb := f2) (cb := c2) (F0 := fun w' => Keep none0 w S10 w' ∧ Ls S10 f1 (ints (ns.map (applyP c))) w' ∧ Ls S10 f2 (ints (ns.map (applyP c))) w') ⟨K10, l1, l2⟩ (fun _ d h => ⟨h.1.at d, h.2⟩) hs t8 t38 fun T w11 hF hs t8 _ => ?_)
      refine (equal_call (N0 := w.heap.size) hF.2.1 hF.2.2 (by rw [List.length_map]; omega)).bind fun S12 g12 w12 _ h12 => ?_
      obtain ⟨rfl, r12, rfl⟩ := h12
      rw [decide_eq_true (rfl : ns.map (applyP c) = ns.map (applyP c))]
      refine Lone.on (n := 60) (ma7 (F0 := Keep none0 w S12) (by obtain ⟨d, rfl⟩ := r12; exact hF.1.at d) Keep.steady hs t8 fun T w13 hF hs t47 _ => ?_)
      refine (awake_call hF.s66).next hF.out.size fun S14 g14 w14 h14 => ?_
      obtain ⟨k14, rfl⟩ := h14
      exact Lone.goes (n := 60) (ma8 (F0 := Keep none0 w S14) (hF.trans k14) Keep.steady hs t47 fun T kk w5 hF hs h6 => ⟨hF, T, kk, hs, h6, rfl⟩)
    · have hk' : k < 1 ∨ 16 < k := by omega
      refine (map_few (k := k) hF.1.s66 hk').next hF.1.out.size fun S8 g8 w8 h8 => ?_
      obtain ⟨k8, rfl⟩ := h8
      have K8 := hF.1.trans k8
      by_cases h1 : k < 1
      · refine Lone.on (n := 60) (ma5a (F0 := Keep none0 w S8) K8 Keep.steady hs t2 (decide_eq_true h1) fun T w9 hF hs t35 _ => ?_)
        refine (awake_call hF.s66).next hF.out.size fun S14 g14 w14 h14 => ?_
        obtain ⟨k14, rfl⟩ := h14
        exact Lone.goes (n := 60) (ma9 (F0 := Keep none0 w S14) (hF.trans k14) Keep.steady hs t35 fun T kk w5 hF hs h6 => ⟨hF, T, kk, hs, h6, rfl⟩)
      · refine Lone.on (n := 60) (ma5b (F0 := Keep none0 w S8) K8 Keep.steady hs t2 (decide_eq_false h1) (decide_eq_true (by omega)) fun T w9 hF hs t35 _ => ?_)
        refine (awake_call hF.s66).next hF.out.size fun S14 g14 w14 h14 => ?_
        obtain ⟨k14, rfl⟩ := h14
        exact Lone.goes (n := 60) (ma9 (F0 := Keep none0 w S14) (hF.trans k14) Keep.steady hs t35 fun T kk w5 hF hs h6 => ⟨hF, T, kk, hs, h6, rfl⟩)
end Go.Proofs.Ytblpmdolclalnaa
