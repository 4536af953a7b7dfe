/- The law StageChains: walked whole, goroutine 0 coming to its return with true. -/
import Derived.Test.YtblpmdolclalnaaB29
namespace Go.Proofs.Ytblpmdolclalnaa
open Go.Conc

section
variable {Shun S : Nat → Prop} {w w₁ : World} {codes : List Int} {kbs : List Nat} {vf : Value}
theorem FL.form (h : FL Shun w S codes kbs vf w₁) : ∃ ff cf, vf = .slice ff kbs.length cf ∧ FnsAt S ff (fun s => kbs.getD s 0) kbs.length w₁ := by
  have hr := h.row
  rcases hr.2 with ⟨e, h0⟩ | ⟨g, c, cur, e, _⟩
  · exact ⟨none, 0, by rw [h0]; exact e, fun s hs => by omega⟩
  · refine ⟨_, c, e, fun s hs => ⟨g, 0, rfl, h.rowS g (by rw [e]; rfl), ?_⟩⟩
    rw [e] at hr
    have h0 : (kbs.map fnV)[s]? = some (fnV (kbs.getD s 0)) := by
      rw [List.getElem?_map, List.getElem?_eq_getElem hs, List.getD_eq_getElem?_getD, List.getElem?_eq_getElem hs]
      rfl
    rw [Nat.zero_add]
    exact row_get hr h0
theorem FL.cels (h : FL Shun w S codes kbs vf w₁) (hl : kbs.length = codes.length) : ∀ s, s < codes.length → Cel S (kbs.getD s 0) (.int .u8 (codes.getD s 0)) w₁ := fun s hs => by
  refine h.box s _ ?_
  rw [List.getD_eq_getElem?_getD, List.getElem?_eq_getElem (by omega)]
  rfl
end
theorem chainL_length : ∀ (l ns : List Int), (chainL l ns).length = ns.length := by
  intro l
  induction l with
  | nil => intro ns; rfl
  | cons a l ih => intro ns; show (chainL l (ns.map (applyP a))).length = _; rw [ih]; simp
theorem ca_loop {w : World} {fa fc : Option Addr} {ca cc na : Nat} {codes : List Int} {N0 : Nat} {Q : (Nat → Prop) → Goroutine → World → Prop} (hL : Ls none0 fc (codesV codes) w) (hlen : codes.length < 900000)
    (hgo : ∀ S kbs vf T w₁, kbs.length = codes.length → FL none0 w S codes kbs vf w₁ → T.size = 64 → T[0]? = some (.slice fa na ca) → T[1]? = some (.slice fc codes.length cc) → T[5]? = some vf → T[19]? = some (.int .i64 codes.length) → T[20]? = some (.int .i64 codes.length) →
      Lone Try.prog N0 Q S (G ((base 4).at ⟨T, []⟩ [.code lp4, .inLoop lp4, .inBlock 0, .code (tl4 4)]) []) w₁) (hN : N0 ≤ w.heap.size) : ∀ (m i : Nat) (S : Nat → Prop) (kbs : List Nat) (vf : Value) (T : Array Value) (w₁ : World), i + m = codes.length → kbs.length = i → FL none0 w S codes kbs vf w₁ →
    T.size = 64 → T[0]? = some (.slice fa na ca) → T[1]? = some (.slice fc codes.length cc) → T[5]? = some vf → T[19]? = some (.int .i64 codes.length) → T[20]? = some (.int .i64 i) →
      Lone Try.prog N0 Q S (G ((base 4).at ⟨T, []⟩ [.code lp4, .inLoop lp4, .inBlock 0, .code (tl4 4)]) []) w₁ := by
  intro m
  induction m with
  | zero =>
    intro i S kbs vf T w₁ hi hk hF hs t0 t1 t5 t19 t20
    obtain rfl : i = codes.length := by omega
    exact hgo S kbs vf T w₁ hk hF hs t0 t1 t5 t19 t20
  | succ m ih =>
    intro i S kbs vf T w₁ hi hk hF hs t0 t1 t5 t19 t20
    have hlt : i < codes.length := by omega
    have hv : codes[i]? = some codes[i] := List.getElem?_eq_getElem hlt
    refine Lone.on (n := 60) (ca_to hL hlen hv hs t0 t1 t5 t19 t20 hF fun T w2 hF hs t0 t1 t5 t19 t20 t23 _ => ?_)
    refine (fn12 (a := codes[i]) hF.keep.s66).next (Nat.le_trans hN hF.keep.out.size) fun S3 g3 w3 h3 => ?_
    obtain ⟨k3, kb, c3, rfl⟩ := h3
    exact Lone.on (n := 60) (ca_back hlen hv hk hs t0 t1 t5 t19 t20 t23 (hF.next k3) c3 fun T vf' w4 hF4 hs t0 t1 t5 t19 t20 _ => ih (i + 1) S3 (kbs ++ [kb]) vf' T w4 (by omega) (by simp [hk]) hF4 hs t0 t1 t5 t19 t20)

theorem lawChains {w : World} {fa fc : Option Addr} {ca cc : Nat} {ns codes : List Int} (hc : ∀ c ∈ codes, 0 ≤ c ∧ c < 256) (hL : Ls none0 fa (ints ns) w) (hA : (fa = none ∧ ca = 0 ∧ ns = []) ∨ ∃ bl o, fa = some ⟨bl, o, none⟩ ∧ bl < w.heap.size) (hLc : Ls none0 fc (codesV codes) w) (hlen : ns.length < 9223372036854775808) (hlenc : codes.length < 9223372036854775808) :
    Lone Try.prog w.heap.size (LawEnd 4 64 4 w) none0 (G ((base 4).at ⟨#[.slice fa ns.length ca, .slice fc codes.length cc, undef, undef, undef, undef, undef, undef, undef, undef, undef, undef, undef, undef, undef, undef, undef, undef, undef, undef, undef, undef, undef, undef, undef, undef, undef, undef, undef, undef, undef, undef, undef, undef, undef, undef, undef, undef, undef, undef, undef, undef, undef, undef, undef, undef, undef, undef, undef, undef, undef, undef, undef, undef, undef, undef, undef, undef, undef, undef, undef, undef, undef, undef], []⟩ [.code body4]) []) w := by
  have h66 := s66_none w
  refine Lone.on (n := 60) (ca0 (F0 := AtRel w) ⟨w.drawn, rfl⟩ AtRel.steady fun T w1 hF hs t0 t1 _ => ?_)
  have K1 := keep_refl_at h66 hF
  have L1 : Ls none0 fa (ints ns) w1 := hL.keep K1
  clear hF
  refine (small_call (N0 := w.heap.size) L1 hlen).bind fun S g w2 _ h => ?_
  obtain ⟨rfl, r2, rfl⟩ := h
  have K2 : Keep none0 w none0 w2 := by obtain ⟨d, rfl⟩ := r2; exact K1.at d
  cases hsm : smallB ns with
  | false =>
    refine Lone.on (n := 60) (ca1 (F0 := Keep none0 w none0) K2 Keep.steady hs fun T w3 hF hs _ => ?_)
    refine (awake_call hF.s66).next hF.out.size fun S4 g4 w4 h4 => ?_
    obtain ⟨k4, rfl⟩ := h4
    exact Lone.goes (n := 60) (ca1b (F0 := Keep none0 w S4) (hF.trans k4) Keep.steady hs fun T kk w5 hF hs h6 => ⟨hF, T, kk, hs, h6, rfl⟩)
  | true =>
    have hn : ns.length ≤ 300 := by
      simp only [smallB, Bool.and_eq_true, decide_eq_true_eq] at hsm
      exact hsm.2
    by_cases h20 : 20 < codes.length
    · refine Lone.on (n := 60) (ca1c (F0 := Keep none0 w none0) K2 Keep.steady hs t1 (decide_eq_true (by omega)) fun T w3 hF hs _ => ?_)
      refine (awake_call hF.s66).next hF.out.size fun S4 g4 w4 h4 => ?_
      obtain ⟨k4, rfl⟩ := h4
      exact Lone.goes (n := 60) (ca1b (F0 := Keep none0 w S4) (hF.trans k4) Keep.steady hs fun T kk w5 hF hs h6 => ⟨hF, T, kk, hs, h6, rfl⟩)
    · refine Lone.on (n := 60) (ca2 (F0 := Keep none0 w none0) K2 Keep.steady hs t0 t1 (decide_eq_false (by omega)) fun T w3 hF hs t0 t1 t5 t19 t20 _ => ?_)
      refine ca_loop hLc (by omega) (fun S4 kbs vf T w4 hk hF hs t0 t1 t5 t19 t20 => ?_) (Nat.le_refl _) codes.length 0 none0 [] _ T w3 (by omega) rfl ⟨hF, ⟨rfl, .inl ⟨rfl, rfl⟩⟩, fun g hg => (by cases hg), fun s k hk => (by simp at hk), fun g hg => (by cases hg)⟩ hs t0 t1 t5 t19 t20
      refine Lone.on (n := 60) (ca3 (vf := vf) (F0 := FL none0 w S4 codes kbs vf) hF FL.steady hs t0 t1 t5 t19 t20 (decide_eq_false (by omega)) fun T w5 hF hs t0 t1 t5 _ => ?_)
      refine (fn13 (fa := fa) (n := ns.length) (cap := ca) hF.keep.s66).next hF.keep.out.size fun S6 g6 w6 h6 => ?_
      obtain ⟨k6, kl, c6, rfl⟩ := h6
      have F6 := hF.next k6
      clear hF
      obtain ⟨ff, cf, rfl, hfs⟩ := F6.form
      refine Lone.on (n := 60) (ca4 (kl := kl) (F0 := fun w' => FL none0 w S6 codes kbs (.slice ff kbs.length cf) w' ∧ Cel S6 kl (.slice fa ns.length ca) w' ∧ FnsAt S6 ff (fun s => kbs.getD s 0) kbs.length w') ⟨F6, c6, hfs⟩ (fun _ d h => ⟨FL.steady _ d h.1, h.2⟩) hs t0 t1 t5 fun T w7 hF hs t0 t1 _ => ?_)
      have L7 : Ls S6 fa (ints ns) w7 := hL.keep hF.1.keep
      by_cases h16 : codes.length ≤ 16
      · have hlaw := chain_law (b₀ := base 4) (a₀ := ⟨T, []⟩) (ops₀ := cO (cF (tl4 4))) (i₀ := 3) (rest₀ := [4, 5, 6, 7, 8]) (k₀ := [.code (tl4 5)]) (cs := []) (kf := fun s => kbs.getD s 0) (ff := ff) (capf := cf) hF.1.keep.s66 hc h16 (by omega) (hF.1.cels hk) (by rw [← hk]; exact hF.2.2) hF.2.1 L7
        rw [← hk] at hlaw
        refine hlaw.next hF.1.keep.out.size fun S8 g8 w8 h8 => ?_
        obtain ⟨k8, v1, r1, rfl⟩ := h8
        have K8 := hF.1.keep.trans k8
        clear hF hlaw
        refine Lone.on (n := 60) (ca5 (v1 := v1) (F0 := fun w' => Keep none0 w S8 w' ∧ Got w' v1 (chainL codes ns)) ⟨K8, r1⟩ (fun _ d h => ⟨h.1.at d, h.2⟩) hs t0 t1 (decide_eq_false (by omega)) fun T w9 hF hs t8 t52 _ => ?_)
        have L9 : Ls S8 fa (ints ns) w9 := hL.keep hF.1
        refine (refchain_call (N0 := w.heap.size) hc hF.1.s66 L9 (hLc.keep hF.1) (hA.imp id fun ⟨bl, o, e, h⟩ => ⟨bl, o, e, hF.1.old h id, Nat.lt_of_lt_of_le h hF.1.out.size⟩) (by omega) (by omega)).bind fun S10 g10 w10 _ h10 => ?_
        obtain ⟨rfl, vo, hR, rfl⟩ := h10
        have A := hF.2.keep hR.keep hF.1.s66
        have B : Got w10 vo (chainL codes ns) := got_of hR.row
        have K10 := hF.1.trans hR.keep
        clear hF hR
        obtain ⟨f1, c1, rfl, l1⟩ := A.ls K10.s66
        obtain ⟨f2, c2, rfl, l2⟩ := B.ls K10.s66
        refine Lone.on (n := 60) (ca6 (fa := f1) (ca := c1) (fb := f2) (cb := c2) (F0 := fun w' => Keep none0 w S10 w' ∧ Ls S10 f1 (ints (chainL codes ns)) w' ∧ Ls S10 f2 (ints (chainL codes ns)) w') ⟨K10, l1, l2⟩ (fun _ d h => ⟨h.1.at d, h.2⟩) hs t8 t52 fun T w11 hF hs t8 _ => ?_)
        refine (equal_call (N0 := w.heap.size) hF.2.1 hF.2.2 (by rw [chainL_length]; omega)).bind fun S12 g12 w12 _ h12 => ?_
        obtain ⟨rfl, r12, rfl⟩ := h12
        rw [decide_eq_true (rfl : chainL codes ns = chainL codes ns)]
        refine Lone.on (n := 60) (ca7 (F0 := Keep none0 w S12) (by obtain ⟨d, rfl⟩ := r12; exact hF.1.at d) Keep.steady hs t8 fun T w13 hF hs t61 _ => ?_)
        refine (awake_call hF.s66).next hF.out.size fun S14 g14 w14 h14 => ?_
        obtain ⟨k14, rfl⟩ := h14
        exact Lone.goes (n := 60) (ca8 (F0 := Keep none0 w S14) (hF.trans k14) Keep.steady hs t61 fun T kk w5 hF hs h6 => ⟨hF, T, kk, hs, h6, rfl⟩)
      · refine (chain_many (b₀ := base 4) (a₀ := ⟨T, []⟩) (ops₀ := cO (cF (tl4 4))) (i₀ := 3) (rest₀ := [4, 5, 6, 7, 8]) (k₀ := [.code (tl4 5)]) (cs := []) (kl := kl) (ff := ff) (capf := cf) (nf := kbs.length) hF.1.keep.s66 (by omega)).next hF.1.keep.out.size fun S8 g8 w8 h8 => ?_
        obtain ⟨k8, rfl⟩ := h8
        refine Lone.on (n := 60) (ca9 (F0 := Keep none0 w S8) (hF.1.keep.trans k8) Keep.steady hs t1 (decide_eq_true (by omega)) fun T w9 hF hs t49 _ => ?_)
        refine (awake_call hF.s66).next hF.out.size fun S14 g14 w14 h14 => ?_
        obtain ⟨k14, rfl⟩ := h14
        exact Lone.goes (n := 60) (ca10 (F0 := Keep none0 w S14) (hF.trans k14) Keep.steady hs t49 fun T kk w5 hF hs h6 => ⟨hF, T, kk, hs, h6, rfl⟩)
end Go.Proofs.Ytblpmdolclalnaa
