/- The law StageSplits, walked whole, goroutine 0 coming to its return with true. What every row's proof of this seat shares: slices among the arguments; the last step of a law that makes memory and turns none of the arguments'. -/
import Derived.Test.YtblpmdolclalnaaC26
import Derived.Test.YtblpmdolclalnaaC28
import Derived.Test.YtblpmdolclalnaaRows
import Derived.ProofKit
import Derived.OpenShut
import Derived.ChangeSlices
import Derived.SliceStrings
import Derived.WideShapes
import Derived.Conc.LeavingOf
import Derived.Conc.Holds
namespace Go.Proofs.Ytblpmdolclalnaa
open Go.Conc

section
variable {Shun S : Nat → Prop} {w w₁ : World} {codes ns ys : List Int} {kbs : List Nat} {ff : Option Addr} {cf cut : Nat}
theorem FL.fns (h : FL Shun w S codes kbs (.slice ff kbs.length cf) w₁) : FnsAt S ff (fun s => kbs.getD s 0) kbs.length w₁ := by
  obtain ⟨ff', cf', e, hf⟩ := h.form
  cases e
  exact hf
theorem FL.cap (h : FL Shun w S codes kbs (.slice ff kbs.length cf) w₁) : kbs.length ≤ cf := by
  rcases h.row.2 with ⟨_, h0⟩ | ⟨g, cap, cur, e, _, _, hc, _⟩
  · omega
  · cases e; exact hc
theorem Got.lists {fv : Option Addr} {cv n : Nat} (h : Got w₁ (.slice fv n cv) ys) (h66 : S66 S w₁) : Ls S fv (ints ys) w₁ := by
  obtain ⟨f1, c1, e, l⟩ := h.ls h66
  cases e
  exact l
theorem take_getD {s : Nat} (h : s < cut) : (codes.take cut).getD s 0 = codes.getD s 0 := by
  simp [List.getD_eq_getElem?_getD, h]
theorem drop_getD {s : Nat} : (codes.drop cut).getD s 0 = codes.getD (cut + s) 0 := by
  simp [List.getD_eq_getElem?_getD]
theorem chainL_split : chainL (codes.drop cut) (chainL (codes.take cut) ns) = chainL codes ns := by
  unfold chainL
  rw [← List.foldl_append, List.take_append_drop]
theorem FL.part1 (h : FL Shun w S codes kbs (.slice ff kbs.length cf) w₁) (hl : kbs.length = codes.length) (hcut : cut ≤ codes.length) : (∀ s, s < (codes.take cut).length → Cel S (kbs.getD s 0) (.int .u8 ((codes.take cut).getD s 0)) w₁) ∧ FnsAt S ff (fun s => kbs.getD s 0) (codes.take cut).length w₁ := by
  have e : (codes.take cut).length = cut := by simp; omega
  rw [e]
  exact ⟨fun s hs => by rw [take_getD hs]; exact h.cels hl s (by omega), fun s hs => h.fns s (by omega)⟩
theorem FL.part2 (h : FL Shun w S codes kbs (.slice ff kbs.length cf) w₁) (hl : kbs.length = codes.length) (hcut : cut ≤ codes.length) : (∀ s, s < (codes.drop cut).length → Cel S (kbs.getD (cut + s) 0) (.int .u8 ((codes.drop cut).getD s 0)) w₁) ∧ FnsAt S (if cf = cut then ff else Option.map (fun x => x.add cut) ff) (fun s => kbs.getD (cut + s) 0) (codes.drop cut).length w₁ := by
  have e : (codes.drop cut).length = codes.length - cut := by simp
  have hcap := h.cap
  rw [e]
  refine ⟨fun s hs => by rw [drop_getD]; exact h.cels hl (cut + s) (by omega), fun s hs => ?_⟩
  obtain ⟨bf, o, rfl, h1, h2⟩ := h.fns (cut + s) (by omega)
  rw [if_neg (by omega)]
  exact ⟨bf, o + cut, by rw [Option.map_some, Addr.add_lit], h1, by rw [Nat.add_assoc]; exact h2⟩
theorem FL.head (h : FL Shun w S codes kbs (.slice ff kbs.length cf) w₁) (hl : kbs.length = codes.length) (h0 : 0 < codes.length) : Cel S (kbs.getD 0 0) (.int .u8 (codes.getD 0 0)) w₁ ∧ ∃ bf o, ff = some ⟨bf, o, none⟩ ∧ ¬ S bf ∧ w₁.cell? ⟨bf, o, none⟩ = some (fnV (kbs.getD 0 0)) :=
  ⟨h.cels hl 0 h0, h.fns 0 (by omega)⟩
end

theorem sp_loop {w : World} {fa fc : Option Addr} {ca cc na cut : Nat} {codes : List Int} {N0 : Nat} {Q : (Nat → Prop) → Goroutine → World → Prop} (hL : Ls none0 fc (codesV codes) w) (hlen : codes.length < 900000)
    (hgo : ∀ S kbs vf T w₁, kbs.length = codes.length → FL none0 w S codes kbs vf w₁ → T.size = 127 → T[0]? = some (.slice fa na ca) → T[7]? = some (.int .i64 cut) → T[1]? = some (.slice fc codes.length cc) → T[8]? = some vf → T[36]? = some (.int .i64 codes.length) → T[37]? = some (.int .i64 codes.length) →
      Lone Try.prog N0 Q S (G ((base 6).at ⟨T, []⟩ [.code lp6, .inLoop lp6, .inBlock 0, .code (tl6 5)]) []) w₁) (hN : N0 ≤ w.heap.size) : ∀ (m i : Nat) (S : Nat → Prop) (kbs : List Nat) (vf : Value) (T : Array Value) (w₁ : World), i + m = codes.length → kbs.length = i → FL none0 w S codes kbs vf w₁ →
    T.size = 127 → T[0]? = some (.slice fa na ca) → T[7]? = some (.int .i64 cut) → T[1]? = some (.slice fc codes.length cc) → T[8]? = some vf → T[36]? = some (.int .i64 codes.length) → T[37]? = some (.int .i64 i) →
      Lone Try.prog N0 Q S (G ((base 6).at ⟨T, []⟩ [.code lp6, .inLoop lp6, .inBlock 0, .code (tl6 5)]) []) w₁ := by
  intro m
  induction m with
  | zero =>
    intro i S kbs vf T w₁ hi hk hF hs t0 t7 t1 t8 t36 t37
    obtain rfl : i = codes.length := by omega
    exact hgo S kbs vf T w₁ hk hF hs t0 t7 t1 t8 t36 t37
  | succ m ih =>
    intro i S kbs vf T w₁ hi hk hF hs t0 t7 t1 t8 t36 t37
    have hlt : i < codes.length := by omega
    have hv : codes[i]? = some codes[i] := List.getElem?_eq_getElem hlt
    refine Lone.on (n := 60) (sp_to hL hlen hv hs t0 t7 t1 t8 t36 t37 hF fun T w2 hF hs t0 t7 t1 t8 t36 t37 t40 _ => ?_)
    refine (fn12 (a := codes[i]) hF.keep.s66).next (Nat.le_trans hN hF.keep.out.size) fun S3 g3 w3 h3 => ?_
    obtain ⟨k3, kb, c3, rfl⟩ := h3
    exact Lone.on (n := 60) (sp_back hlen hv hk hs t0 t7 t1 t8 t36 t37 t40 (hF.next k3) c3 fun T vf' w4 hF4 hs t0 t7 t1 t8 t36 t37 _ => ih (i + 1) S3 (kbs ++ [kb]) vf' T w4 (by omega) (by simp [hk]) hF4 hs t0 t7 t1 t8 t36 t37)

/-- From the made functions on. -/
theorem sp_rest {w w4 : World} {fa fc : Option Addr} {ca cc cut : Nat} {ns codes : List Int} {kbs : List Nat} {vf : Value} {S4 : Nat → Prop} {T : Array Value} (hc : ∀ c ∈ codes, 0 ≤ c ∧ c < 256) (hL : Ls none0 fa (ints ns) w) (hn : ns.length ≤ 300) (hlc : codes.length ≤ 16) (hcut : cut ≤ codes.length)
    (hk : kbs.length = codes.length) (hF : FL none0 w S4 codes kbs vf w4) (hs : T.size = 127) (t0 : T[0]? = some (.slice fa ns.length ca)) (t7 : T[7]? = some (.int .i64 cut)) (t1 : T[1]? = some (.slice fc codes.length cc)) (t8 : T[8]? = some vf) (t36 : T[36]? = some (.int .i64 codes.length)) (t37 : T[37]? = some (.int .i64 codes.length)) :
    Lone Try.prog w.heap.size (LawEnd 6 127 6 w) S4 (G ((base 6).at ⟨T, []⟩ [.code lp6, .inLoop lp6, .inBlock 0, .code (tl6 5)]) []) w4 := by
  refine Lone.on (n := 60) (sp3 (vf := vf) (F0 := FL none0 w S4 codes kbs vf) hF FL.steady hs t0 t1 t7 t8 t36 t37 (decide_eq_false (by omega)) fun T w5 hF hs t0 t1 t7 t8 _ => ?_)
  refine (fn13 (fa := fa) (n := ns.length) (cap := ca) hF.keep.s66).next hF.keep.out.size fun S6 g6 w6 h6 => ?_
  obtain ⟨k6, kl, c6, rfl⟩ := h6
  have F6 := hF.next k6
  clear hF k6
  obtain ⟨ff, cf, rfl, hfs⟩ := F6.form
  refine Lone.on (n := 60) (sp4 (kl := kl) (F0 := fun w' => FL none0 w S6 codes kbs (.slice ff kbs.length cf) w' ∧ Cel S6 kl (.slice fa ns.length ca) w') ⟨F6, c6⟩ (fun _ d h => ⟨FL.steady _ d h.1, h.2⟩) hs t0 t1 t7 t8 fun T w7 hF hs t0 t1 t7 t8 _ => ?_)
  clear F6 c6 hfs
  have hlaw := chain_law (b₀ := base 6) (a₀ := ⟨T, []⟩) (ops₀ := cO (cF (tl6 5))) (i₀ := 3) (rest₀ := [4, 5, 6, 7, 8]) (k₀ := [.code (tl6 6)]) (cs := []) (kf := fun s => kbs.getD s 0) (ff := ff) (capf := cf) hF.1.keep.s66 hc hlc (by omega) (hF.1.cels hk) (by rw [← hk]; exact hF.1.fns) hF.2 (hL.keep hF.1.keep)
  rw [← hk] at hlaw
  refine hlaw.next hF.1.keep.out.size fun S8 g8 w8 h8 => ?_
  obtain ⟨k8, v1, r1, rfl⟩ := h8
  have F8 := hF.1.next k8
  clear hF hlaw k8
  refine Lone.on (n := 60) (sp5 (v1 := v1) (F0 := fun w' => FL none0 w S8 codes kbs (.slice ff kbs.length cf) w' ∧ Got w' v1 (chainL codes ns)) ⟨F8, r1⟩ (fun _ d h => ⟨FL.steady _ d h.1, h.2⟩) hs t0 t7 t8 fun T w9 hF hs t0 t7 t8 t10 t11 _ => ?_)
  clear F8 r1
  have hct : (codes.take cut).length = cut := by simp; omega
  have hmt : ∀ c ∈ codes.take cut, 0 ≤ c ∧ c < 256 := fun c h => hc c (List.mem_of_mem_take h)
  have hmd : ∀ c ∈ codes.drop cut, 0 ≤ c ∧ c < 256 := fun c h => hc c (List.mem_of_mem_drop h)
  -- the first part
  refine regA (J := fun S w' => FL none0 w S codes kbs (.slice ff kbs.length cf) w' ∧ Got w' v1 (chainL codes ns)) (fa := fa) (ca := ca) (ff := ff) (nf := kbs.length) (cf := cf) (codes := codes.take cut) (ns := ns) (kf := fun s => kbs.getD s 0) hs t0 (by rw [hct]; exact t7) t8
    (fun S w' h => ⟨h.1.keep.s66, h.1.keep.out.size, (h.1.part1 hk hcut).1, (h.1.part1 hk hcut).2, hL.keep h.1.keep⟩) (fun S w' S' w'' h k => ⟨h.1.next k, h.2.keep k h.1.keep.s66⟩) hmt (by omega) (by omega) (by rw [hct]; have := hF.1.cap; omega) (fun T' v2 S w' hJ g2 hs t12 t13 hB => ?_) hF
  replace t0 := (hB 0 (by decide)).trans t0
  replace t7 := (hB 7 (by decide)).trans t7
  replace t8 := (hB 8 (by decide)).trans t8
  replace t10 := (hB 10 (by decide)).trans t10
  replace t11 := (hB 11 (by decide)).trans t11
  clear hB hF
  obtain ⟨f2, c2, rfl, _⟩ := g2.ls hJ.1.keep.s66
  -- the second part
  rw [codeB]
  refine Lone.on (n := 1) (g_seq sd_idle fun w₁ h₁ => Goes.stop fun w₂ h₂ _ => ?_)
  have hJ2 : (FL none0 w S codes kbs (.slice ff kbs.length cf) w₂ ∧ Got w₂ v1 (chainL codes ns)) ∧ Got w₂ (.slice f2 (chainL (codes.take cut) ns).length c2) (chainL (codes.take cut) ns) := by
    obtain ⟨d, rfl⟩ := AtRel.steady.rel h₁ h₂
    exact ⟨⟨FL.steady _ d hJ.1, hJ.2⟩, g2⟩
  clear hJ g2 h₁ h₂
  refine regB (J := fun S w' => (FL none0 w S codes kbs (.slice ff kbs.length cf) w' ∧ Got w' v1 (chainL codes ns)) ∧ Got w' (.slice f2 (chainL (codes.take cut) ns).length c2) (chainL (codes.take cut) ns)) (fa := f2) (ca := c2) (ff := ff) (nf := kbs.length) (cf := cf) (cut := cut) (A := if cf = cut then ff else Option.map (fun x => x.add cut) ff) (codes := codes.drop cut) (ns := chainL (codes.take cut) ns) (kf := fun s => kbs.getD (cut + s) 0) hs t12 t7 t8
    (fun S w' h => ⟨h.1.1.keep.s66, h.1.1.keep.out.size, (h.1.1.part2 hk hcut).1, (h.1.1.part2 hk hcut).2, h.2.lists h.1.1.keep.s66⟩) (fun S w' S' w'' h k => ⟨⟨h.1.1.next k, h.1.2.keep k h.1.1.keep.s66⟩, h.2.keep k h.1.1.keep.s66⟩) hmd (by simp; omega) (by rw [chainL_length]; omega) (by omega) rfl (by simp; omega) (fun T' v3 S w' hJ g3 hs t14 t15 hB => ?_) hJ2
  replace t0 := (hB 0 (by decide)).trans t0
  replace t7 := (hB 7 (by decide)).trans t7
  replace t8 := (hB 8 (by decide)).trans t8
  replace t10 := (hB 10 (by decide)).trans t10
  replace t11 := (hB 11 (by decide)).trans t11
  replace t13 := (hB 13 (by decide)).trans t13
  clear hB hJ2
  rw [chainL_split] at g3
  have h66 := hJ.1.1.keep.s66
  obtain ⟨f1, c1, rfl, l1⟩ := hJ.1.2.ls h66
  obtain ⟨f3, c3, rfl, l3⟩ := g3.ls h66
  refine Lone.on (n := 60) (sp6 (F0 := fun w' => FL none0 w S codes kbs (.slice ff kbs.length cf) w' ∧ Ls S f1 (ints (chainL codes ns)) w' ∧ Ls S f3 (ints (chainL codes ns)) w') ⟨hJ.1.1, l1, l3⟩ (fun _ d h => ⟨FL.steady _ d h.1, h.2⟩) hs t0 t7 t8 t10 t11 t13 t14 t15 fun T w11 hF hs t0 t7 t8 t84 _ => ?_)
  clear hJ g3 l1 l3 h66
  refine (equal_call (N0 := w.heap.size) hF.2.1 hF.2.2 (by rw [chainL_length]; omega)).bind fun S12 g12 w12 _ h12 => ?_
  obtain ⟨rfl, r12, rfl⟩ := h12
  rw [decide_eq_true (rfl : chainL codes ns = chainL codes ns)]
  have F12 : FL none0 w S12 codes kbs (.slice ff kbs.length cf) w12 := FL.steady.rel hF.1 r12
  clear hF r12
  by_cases hz : cut = 0
  · refine Lone.on (n := 60) (sp7z (F0 := Keep none0 w S12) F12.keep Keep.steady hs (by rw [t7, hz]; rfl) t84 fun T w13 hF hs _ => ?_)
    refine (awake_call hF.s66).next hF.out.size fun S14 g14 w14 h14 => ?_
    obtain ⟨k14, rfl⟩ := h14
    exact Lone.goes (n := 60) (sp8 (F0 := Keep none0 w S14) (hF.trans k14) Keep.steady hs fun T kk w5 hF hs h6 => ⟨hF, T, kk, hs, h6, rfl⟩)
  · refine Lone.on (n := 60) (sp7 (F0 := FL none0 w S12 codes kbs (.slice ff kbs.length cf)) F12 FL.steady hs t0 t7 t8 t84 (by rw [beq_eq_false_iff_ne]; omega) fun T w13 hF hs t0 t7 t8 _ => ?_)
    have h0 : 0 < codes.length := by omega
    have hc0 : 0 ≤ codes.getD 0 0 ∧ codes.getD 0 0 < 256 := codes_at hc h0
    obtain ⟨_, bf, ofs, hff, _, _⟩ := hF.head hk h0
    subst hff
    have hd : ∀ S w', FL none0 w S codes kbs (.slice (some ⟨bf, ofs, none⟩) kbs.length cf) w' → Cel S (kbs.getD 0 0) (.int .u8 (codes.getD 0 0)) w' ∧ (¬ S bf ∧ w'.cell? ⟨bf, ofs, none⟩ = some (fnV (kbs.getD 0 0))) := fun S w' h => by
      obtain ⟨h1, b', o', e, h2, h3⟩ := h.head hk h0
      cases e
      exact ⟨h1, h2, h3⟩
    clear F12
    refine regC (J := fun S w' => FL none0 w S codes kbs (.slice (some ⟨bf, ofs, none⟩) kbs.length cf) w') (fa := fa) (ca := ca) (bf := bf) (ofs := ofs) (nf := kbs.length) (cf := cf) (cut := cut) (c := codes.getD 0 0) (kb := kbs.getD 0 0) (ns := ns) hs t0 t7 t8
      (fun S w' h => ⟨h.keep.s66, h.keep.out.size, (hd S w' h).1, (hd S w' h).2, hL.keep h.keep⟩) (fun S w' S' w'' h k => h.next k) hc0 (by omega) (by omega) (by omega) (by omega) (fun T' v4 S w' hJ g4 hs t16 t17 hB => ?_) hF
    replace t0 := (hB 0 (by decide)).trans t0
    replace t8 := (hB 8 (by decide)).trans t8
    clear hB hF
    rw [codeD]
    refine Lone.on (n := 1) (g_seq sd_idle fun w₁ h₁ => Goes.stop fun w₂ h₂ _ => ?_)
    have hJ2 : FL none0 w S codes kbs (.slice (some ⟨bf, ofs, none⟩) kbs.length cf) w₂ ∧ Got w₂ v4 (ns.map (applyP (codes.getD 0 0))) := by
      obtain ⟨d, rfl⟩ := AtRel.steady.rel h₁ h₂
      exact ⟨FL.steady _ d hJ, g4⟩
    clear hJ g4 h₁ h₂
    refine regD (J := fun S w' => FL none0 w S codes kbs (.slice (some ⟨bf, ofs, none⟩) kbs.length cf) w' ∧ Got w' v4 (ns.map (applyP (codes.getD 0 0)))) (fa := fa) (ca := ca) (bf := bf) (ofs := ofs) (nf := kbs.length) (cf := cf) (c := codes.getD 0 0) (kb := kbs.getD 0 0) (ns := ns) hs t0 t8
      (fun S w' h => ⟨h.1.keep.s66, h.1.keep.out.size, (hd S w' h.1).1, (hd S w' h.1).2, hL.keep h.1.keep⟩) (fun S w' S' w'' h k => ⟨h.1.next k, h.2.keep k h.1.keep.s66⟩) hc0 (by omega) (by omega) (fun T' v5 S w' hJ g5 hs t18 t19 hB => ?_) hJ2
    replace t16 := (hB 16 (by decide)).trans t16
    replace t17 := (hB 17 (by decide)).trans t17
    clear hB hJ2
    obtain ⟨f1, c1, rfl, l1⟩ := hJ.2.ls hJ.1.keep.s66
    obtain ⟨f3, c3, rfl, l3⟩ := g5.ls hJ.1.keep.s66
    refine Lone.on (n := 60) (sp9 (F0 := fun w' => Keep none0 w S w' ∧ Ls S f1 (ints (ns.map (applyP (codes.getD 0 0)))) w' ∧ Ls S f3 (ints (chainL [codes.getD 0 0] ns)) w') ⟨hJ.1.keep, l1, l3⟩ (fun _ d h => ⟨h.1.at d, h.2⟩) hs t16 t17 t18 t19 fun T w15 hF hs t119 _ => ?_)
    clear hJ g5 l1 l3
    refine (equal_call (N0 := w.heap.size) hF.2.1 hF.2.2 (by simp; omega)).bind fun S16 g16 w16 _ h16 => ?_
    obtain ⟨rfl, r16, rfl⟩ := h16
    rw [show decide (ns.map (applyP (codes.getD 0 0)) = chainL [codes.getD 0 0] ns) = true from decide_eq_true rfl]
    have K16 : Keep none0 w S16 w16 := Keep.steady.rel hF.1 r16
    clear hF r16
    refine Lone.on (n := 60) (sp10 (F0 := Keep none0 w S16) K16 Keep.steady hs t119 fun T w17 hF hs t124 _ => ?_)
    refine (awake_call hF.s66).next hF.out.size fun S18 g18 w18 h18 => ?_
    obtain ⟨k18, rfl⟩ := h18
    exact Lone.goes (n := 60) (sp11 (F0 := Keep none0 w S18) (hF.trans k18) Keep.steady hs t124 fun T kk w5 hF hs h6 => ⟨hF, T, kk, hs, h6, rfl⟩)

theorem lawSplits {w : World} {fa fc : Option Addr} {ca cc : Nat} {ns codes : List Int} {b : Int} (hc : ∀ c ∈ codes, 0 ≤ c ∧ c < 256) (hb : 0 ≤ b ∧ b < 256) (hL : Ls none0 fa (ints ns) w) (hLc : Ls none0 fc (codesV codes) w) (hlen : ns.length < 9223372036854775808) (hlenc : codes.length < 9223372036854775808) :
    Lone Try.prog w.heap.size (LawEnd 6 127 6 w) none0 (G ((base 6).at ⟨#[.slice fa ns.length ca, .slice fc codes.length cc, .int .u8 b, undef, undef, undef, undef, undef, undef, undef, undef, undef, undef, undef, undef, undef, undef, undef, undef, undef, undef, undef, undef, undef, undef, undef, undef, undef, undef, undef, undef, undef, undef, undef, undef, undef, undef, undef, undef, undef, undef, undef, undef, undef, undef, undef, undef, undef, undef, undef, undef, undef, undef, undef, undef, undef, undef, undef, undef, undef, undef, undef, undef, undef, undef, undef, undef, undef, undef, undef, undef, undef, undef, undef, undef, undef, undef, undef, undef, undef, undef, undef, undef, undef, undef, undef, undef, undef, undef, undef, undef, undef, undef, undef, undef, undef, undef, undef, undef, undef, undef, undef, undef, undef, undef, undef, undef, undef, undef, undef, undef, undef, undef, undef, undef, undef, undef, undef, undef, undef, undef, undef, undef, undef, undef, undef, undef], []⟩ [.code body6]) []) w := by
  have h66 := s66_none w
  refine Lone.on (n := 60) (sp0 (F0 := AtRel w) ⟨w.drawn, rfl⟩ AtRel.steady fun T w1 hF hs t0 t1 t2 _ => ?_)
  have K1 := keep_refl_at h66 hF
  have L1 : Ls none0 fa (ints ns) w1 := hL.keep K1
  clear hF
  refine (small_call (N0 := w.heap.size) L1 hlen).bind fun S g w2 _ h => ?_
  obtain ⟨rfl, r2, rfl⟩ := h
  have K2 : Keep none0 w none0 w2 := by obtain ⟨d, rfl⟩ := r2; exact K1.at d
  cases hsm : smallB ns with
  | false =>
    refine Lone.on (n := 60) (sp1 (F0 := Keep none0 w none0) K2 Keep.steady hs fun T w3 hF hs _ => ?_)
    refine (awake_call hF.s66).next hF.out.size fun S4 g4 w4 h4 => ?_
    obtain ⟨k4, rfl⟩ := h4
    exact Lone.goes (n := 60) (sp1b (F0 := Keep none0 w S4) (hF.trans k4) Keep.steady hs fun T kk w5 hF hs h6 => ⟨hF, T, kk, hs, h6, rfl⟩)
  | true =>
    have hn : ns.length ≤ 300 := by
      simp only [smallB, Bool.and_eq_true, decide_eq_true_eq] at hsm
      exact hsm.2
    by_cases h16 : 16 < codes.length
    · refine Lone.on (n := 60) (sp1c (F0 := Keep none0 w none0) K2 Keep.steady hs t1 (decide_eq_true (by omega)) fun T w3 hF hs _ => ?_)
      refine (awake_call hF.s66).next hF.out.size fun S4 g4 w4 h4 => ?_
      obtain ⟨k4, rfl⟩ := h4
      exact Lone.goes (n := 60) (sp1b (F0 := Keep none0 w S4) (hF.trans k4) Keep.steady hs fun T kk w5 hF hs h6 => ⟨hF, T, kk, hs, h6, rfl⟩)
    · obtain ⟨cut, hcut, hle⟩ : ∃ cut : Nat, b.tmod ((codes.length : Int) + 1) = (cut : Int) ∧ cut ≤ codes.length := by
        have h1 := Int.tmod_nonneg ((codes.length : Int) + 1) hb.1
        have h2 := Int.tmod_lt_of_pos b (show (0 : Int) < (codes.length : Int) + 1 by omega)
        exact ⟨(b.tmod ((codes.length : Int) + 1)).toNat, by omega, by omega⟩
      refine Lone.on (n := 60) (sp2 (F0 := Keep none0 w none0) K2 Keep.steady hs t0 t1 t2 (decide_eq_false (by omega)) (by rw [IntKind.wrap_i64]; omega) (by rw [IntKind.wrap_i64]; omega) (by omega) fun T w3 hF hs t0 t1 t7 t8 t36 t37 _ => ?_)
      rw [hcut] at t7
      exact sp_loop hLc (by omega) (fun S4 kbs vf T w4 hk hF hs t0 t7 t1 t8 t36 t37 => sp_rest hc hL hn (by omega) hle hk hF hs t0 t7 t1 t8 t36 t37) (Nat.le_refl _) codes.length 0 none0 [] _ T w3 (by omega) rfl ⟨hF, ⟨rfl, .inl ⟨rfl, rfl⟩⟩, fun g hg => (by cases hg), fun s k hk => (by simp at hk), fun g hg => (by cases hg)⟩ hs t0 t7 t1 t8 t36 t37
end Go.Proofs.Ytblpmdolclalnaa

namespace Go.Proofs.Ytblpmdolclalnaa
open Go.ChangeShapes Go.WideShapes Go.ChangeAt Go.RowKit Go.Conc

section
variable {H : Type} {enc : TypeId × Value → H} {P : Program}
/-- Arguments read behind the call as before it. -/
theorem trodAll_below (hl : laidOutB P = true) {W W' : World} (hb : Below W.heap.size W W') : ∀ {ts : List TypeId} {vs : List Value} {ds : List (DataW H)} {ps : List MemPlace}, (∀ t ∈ ts, P.readableRec t = true ∧ t < P.types.size) →
    DataW.TrodAll enc P W 0 (fun _ => true) true ts vs ds ps → (∀ x ∈ ps, x.block < W.heap.size) → DataW.TrodAll enc P W' 0 (fun b => decide (b < W.heap.size)) true ts vs ds ps
  | [], vs, ds, ps, _, h, _ => by
    obtain ⟨rfl, rfl, rfl⟩ := trodAll_nil h
    exact trodAll_mk0
  | t :: ts, vs, ds, ps, ht, h, hlt => by
    obtain ⟨v0, vs0, d0, ds0, p0, q0, rfl, rfl, rfl, h0, r0⟩ := trodAll_cons h
    exact trodAll_cons_mk (Below.trod hl (ht t (by simp)).1 (ht t (by simp)).2 h0 hb (fun x hx => hlt x (by simp [hx])))
      (trodAll_below hl hb (fun t' h' => ht t' (by simp [h'])) r0 (fun x hx => hlt x (by simp [hx])))

theorem post_keep {f : Func} {s : ChangeSpec} {apart fresh handsOn : Bool} {W W' : World} {args : Array Value} {v : Value} {ds gs : List (DataW H)} {before : List MemPlace}
    (hW : DataW.Whole enc P f.params.toList s.vars apart W args.toList ds gs before) (hv0 : s.vars = [])
    (hres : ∀ (b : Nat) (sp : Nat → Bool) (hd : Bool), DataW.TrodAll enc P W' b sp hd f.resultTypes.toList (v.resultList f.resultTypes.size) (s.fn H (ds ++ gs)).results [])
    (hsame : (s.fn H (ds ++ gs)).args = ds) (hnov : (s.fn H (ds ++ gs)).vars = [])
    (hl : laidOutB P = true) (ht : ∀ t ∈ f.params.toList, P.readableRec t = true ∧ t < P.types.size) (hb : Below W.heap.size W W') :
    s.post enc P f apart fresh handsOn false W args v W' := by
  have hlt : ∀ p ∈ before, p.block < W.heap.size := fun p hp => hW.lt p hp
  have hW2 := hW
  obtain ⟨p, q, hA, hV, rfl, _, _⟩ := hW2
  rw [hv0] at hV
  obtain ⟨rfl, rfl⟩ := trodVars_none hV
  have hargs : DataW.TrodAll enc P W' 0 (fun b => decide (b < W.heap.size)) true f.params.toList args.toList (s.fn H (ds ++ [])).args p := by
    rw [hsame]
    exact trodAll_below hl hb ht hA (fun x hx => hlt x (by simp [hx]))
  refine ⟨ds, [], p ++ [], [], p, [], hW, hres _ _ _, hargs, ?_, World.keptBut_mono (fun x hx => ⟨hx, ?_⟩) (hb.frame (· ∈ p ++ [])), fun h => by cases h⟩
  · rw [hv0, hnov]; rfl
  · exact .inr (by simpa using hx)
end
theorem Try.own : ownKnob Try.prog.godebug = none := by kernel_rfl
theorem Try.laidOut : laidOutB Try.prog = true := by kernel_rfl
theorem PostL.below {w w' : World} {v : Value} (h : PostL w v w') : v = .bool true ∧ Below w.heap.size w w' := ⟨h.1, h.2.1, h.2.2.1, h.2.2.2.1, h.2.2.2.2.1, h.2.2.2.2.2⟩

theorem cellsOf3 : Try.prog.cellsOf 3 = 1 := by kernel_rfl
theorem cellsOf5 : Try.prog.cellsOf 5 = 1 := by kernel_rfl
theorem ls_cells {w : World} {a : Addr} {xs : List Value} (hc : ∀ i u, xs[i]? = some u → w.cell? (a.add i) = some u) : Ls none0 (some a) xs w := fun i v hv => by
  obtain ⟨b, off, spot⟩ := a
  have hlt : i < xs.length := (List.getElem?_eq_some_iff.1 hv).1
  have h0 := hc 0 _ (List.getElem?_eq_getElem (by omega))
  have hs : spot = none := by simpa [Addr.add] using World.cell?_spot h0
  subst hs
  have h1 := hc i v hv
  exact ⟨b, off, rfl, id, by rw [Addr.add_lit] at h1; exact h1⟩
set_option maxRecDepth 1000000 in
theorem slice_lt {w : World} {r : _root_.Go.Reach} {b0 : Nat} {a : Addr} {len cap : Nat} (hv : Value.okWide Try.prog w r b0 22 (.slice (some a) len cap)) : ∃ bl o, some a = some ⟨bl, o, none⟩ ∧ bl < w.heap.size := by
  simp only [Value.okWide, Try.underlying22, Cell.okWide, Cell.ok, World.has] at hv
  obtain ⟨_, _, _, hs, row, cells, hsh, _⟩ := hv
  obtain ⟨b, off, spot⟩ := a
  have hs' : spot = none := hs
  subst hs'
  refine ⟨b, off, rfl, ?_⟩
  rcases Nat.lt_or_ge b w.heap.size with h | h
  · exact h
  · simp [World.shape?, Array.getElem?_eq_none h] at hsh
set_option maxRecDepth 1000000 in
/-- A slice of ints. -/
theorem open_is {H : Type} {enc : TypeId × Value → H} {w : World} {r : _root_.Go.Reach} {b0 : Nat} {v : Value} {d : DataW H} {ps : List MemPlace} (hv : Value.okWide Try.prog w r b0 22 v)
    (h : DataW.Trod enc Try.prog w 0 (fun _ => true) true 22 v d ps) : ∃ (A : Option Addr) (c : Nat) (zs : List Int), v = .slice A zs.length c ∧ Ls none0 A (ints zs) w ∧ ((A = none ∧ c = 0 ∧ zs = []) ∨ ∃ bl o, A = some ⟨bl, o, none⟩ ∧ bl < w.heap.size) ∧ zs.length < 9223372036854775808 := by
  obtain ⟨a0, len, cap, rfl⟩ := okWide_slice Try.underlying22 hv
  obtain ⟨fuel, hf⟩ := h
  rcases open_ints Try.underlying22 Try.underlying3 cellsOf3 hf with ⟨hcs, hx⟩ | ⟨a, len', cap', zs, hcs, _, hl, hm, hz, hx, hcell, hws⟩
  · simp [Value.cells] at hcs
    obtain ⟨rfl, rfl, rfl⟩ := hcs
    exact ⟨none, 0, [], rfl, fun i v hv => (by cases hv), (.inl ⟨rfl, rfl, rfl⟩), (by show 0 < 9223372036854775808; omega)⟩
  · simp [Value.cells] at hcs
    obtain ⟨rfl, rfl, rfl⟩ := hcs
    simp only [if_true] at hz
    have hlen : (zs.take len).length = len := by simp; omega
    refine ⟨some a, cap, zs.take len, by rw [hlen], ls_cells fun i u hu => ?_, (.inr (slice_lt hv)), by rw [hlen]; simp only [maxLen] at hm; omega⟩
    rw [List.getElem?_map, Option.map_eq_some_iff] at hu
    obtain ⟨s, hs, rfl⟩ := hu
    rw [List.getElem?_take] at hs
    split at hs
    · rw [hcell i (by omega), List.getD_eq_getElem?_getD, hs]; rfl
    · cases hs
set_option maxRecDepth 1000000 in
/-- A slice of bytes. -/
theorem open_bs {H : Type} {enc : TypeId × Value → H} {w : World} {r : _root_.Go.Reach} {b0 : Nat} {v : Value} {d : DataW H} {ps : List MemPlace} (hv : Value.okWide Try.prog w r b0 36 v)
    (h : DataW.Trod enc Try.prog w 0 (fun _ => true) true 36 v d ps) : ∃ (A : Option Addr) (c : Nat) (zs : List Int), v = .slice A zs.length c ∧ Ls none0 A (codesV zs) w ∧ (∀ z ∈ zs, 0 ≤ z ∧ z < 256) ∧ zs.length < 9223372036854775808 := by
  obtain ⟨a0, len, cap, rfl⟩ := okWide_slice Try.underlying36 hv
  obtain ⟨fuel, hf⟩ := h
  rcases open_ints Try.underlying36 Try.underlying5 cellsOf5 hf with ⟨hcs, hx⟩ | ⟨a, len', cap', zs, hcs, _, hl, hm, hz, hx, hcell, hws⟩
  · simp [Value.cells] at hcs
    obtain ⟨rfl, rfl, rfl⟩ := hcs
    exact ⟨none, 0, [], rfl, fun i v hv => (by cases hv), by simp, (by show 0 < 9223372036854775808; omega)⟩
  · simp [Value.cells] at hcs
    obtain ⟨rfl, rfl, rfl⟩ := hcs
    simp only [if_true] at hz
    have hlen : (zs.take len).length = len := by simp; omega
    refine ⟨some a, cap, zs.take len, by rw [hlen], ls_cells fun i u hu => ?_, fun z hz => ?_, by rw [hlen]; simp only [maxLen] at hm; omega⟩
    · rw [List.getElem?_map, Option.map_eq_some_iff] at hu
      obtain ⟨s, hs, rfl⟩ := hu
      rw [List.getElem?_take] at hs
      split at hs
      · rw [hcell i (by omega), List.getD_eq_getElem?_getD, hs]; rfl
      · cases hs
    · have := hws z (List.mem_of_mem_take hz)
      have h2 : IntKind.u8.min ≤ z ∧ z ≤ IntKind.u8.max := by simpa [Lit.wf] using this
      have e1 : IntKind.u8.min = 0 := by decide
      have e2 : IntKind.u8.max = 255 := by decide
      omega
theorem u8_range {x : Int} (h : (Lit.int .u8 x).wf = true) : 0 ≤ x ∧ x < 256 := by
  have h2 : IntKind.u8.min ≤ x ∧ x ≤ IntKind.u8.max := by simpa [Lit.wf] using h
  have e1 : IntKind.u8.min = 0 := by decide
  have e2 : IntKind.u8.max = 255 := by decide
  omega
end Go.Proofs.Ytblpmdolclalnaa
