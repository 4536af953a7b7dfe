/- DecimalNear's plain law. -/
import Derived.Test.YtmgafnflkfbckaaGreatDoorWalkAL
import Derived.Test.YtmgafnflkfbckaaGreatDoorWalkAM
import Derived.Test.YtmgafnflkfbckaaGreatDoorPlain9
namespace Go.Proofs.YtmgafnflkfbckaaGreatDoor.Dc
open Go Go.Lib

theorem showB_len {x : D} (h : limit x = 0) : (showB x).length ≤ 500 := by
  obtain ⟨a, b, c⟩ := limit_ok.1 h
  have h1 := itoa_len b c
  rw [showB, List.length_append, List.length_cons]
  have h2 : (coefB x).length ≤ 401 := by
    rw [coefB]; split
    · simp
    · rw [List.length_append]
      have : (sgnB x.neg).length ≤ 1 := by cases x.neg <;> simp [sgnB]
      simp [digB]; omega
  omega
theorem resS_len (x : D) : (resS x).length ≤ 500 := by
  rw [resS]; split
  · rename_i h; exact showB_len h
  · simp
theorem resS_read {x : D} (hn : Normal x) (h : limit x = 0) : readP (resS x) = some x := by
  rw [resS, if_pos h]; exact readP_show ⟨hn, h⟩
/-- The number with the other sign. -/
def flip (x : D) : D := if x.c = [] then x else ⟨!x.neg, x.c, x.e⟩
theorem flip_normal {x : D} (h : Normal x) : Normal (flip x) := by
  rw [flip]; split
  · exact h
  · rename_i hc; exact ⟨h.1, fun h2 => absurd h2 hc, h.2.2.1, h.2.2.2⟩
theorem flip_val (x : D) (f : Int) : V (flip x) f = -V x f := by
  rw [flip]; split
  · rename_i h; rw [V_nil h]; rfl
  · simp only [V]; cases x.neg <;> simp [sgn]
theorem flip_limit (x : D) : limit (flip x) = limit x := by
  rw [flip]; split <;> rfl
theorem flip_under {x : D} {f : Int} (h : Under f x) : Under f (flip x) := by
  rw [flip]; split
  · exact h
  · exact h
theorem one_normal (g : Bool) (e : Int) : Normal ⟨g, [1], e⟩ := ⟨fun y hy => by simp at hy; omega, fun h => (by cases h), fun u hu => by simp at hu; omega, fun u hu => by simp at hu; omega⟩
theorem V_one (g : Bool) (e f : Int) : V ⟨g, [1], e⟩ f = sgn g ((10 : Int) ^ (e - f).toNat) := by simp [V, num]
theorem times_minus {x : D} (h : Normal x) : prodP x ⟨true, [1], 0⟩ = flip x := by
  obtain ⟨h1, h2⟩ := prodP_val (f := x.e) (g := 0) h (one_normal true 0) (Or.inr (Int.le_refl _)) (Or.inr (Int.le_refl _))
  refine V_inj (prodP_normal _ _) (flip_normal h) h2 ?_ ?_
  · rw [Int.add_zero]; exact flip_under (Or.inr (Int.le_refl _))
  · rw [h1, Int.add_zero, flip_val, V_one]
    simp [sgn]
theorem lit_minus : readP [45, 49, 101, 48] = some ⟨true, [1], 0⟩ := readP_iff.2 ⟨⟨one_normal true 0, by decide⟩, by simp [showB, coefB, sgnB, digB, Lib.itoa, Lib.decDigits]⟩
theorem lit_two : readP [50, 101, 48] = some ⟨false, [2], 0⟩ := readP_iff.2 ⟨⟨⟨fun y hy => by simp at hy; omega, fun h => (by cases h), fun u hu => by simp at hu; omega, fun u hu => by simp at hu; omega⟩, by decide⟩, by simp [showB, coefB, sgnB, digB, Lib.itoa, Lib.decDigits]⟩
theorem two_normal : Normal ⟨false, [2], 0⟩ := (readP_some lit_two).1.1
theorem of_one (g : Bool) {e : Int} (h1 : -2000 ≤ e) (h2 : e ≤ 2000) : ofS (if g then [45, 49] else [49]) e = (resS ⟨g, [1], e⟩, 0) ∧ limit ⟨g, [1], e⟩ = 0 := by
  have hl : limit ⟨g, [1], e⟩ = 0 := limit_ok.2 ⟨by simp, h1, h2⟩
  have hc : clampE e = e := by rw [clampE]; split; · omega
                               · split; · omega
                                 · rfl
  refine ⟨?_, hl⟩
  cases g
  · have hi : intB [49] = true := by decide
    have hn : norm (([49] : List UInt8).head? == some 45) (vals (unsign [49])) e = ⟨false, [1], e⟩ := by simp [norm, unsign, vals, lead, core, trail]
    rw [ofS]
    simp only [Bool.false_eq_true, if_false]
    rw [hi, hc, hn, if_pos rfl, hl]
  · have hi : intB [45, 49] = true := by decide
    have hn : norm (([45, 49] : List UInt8).head? == some 45) (vals (unsign [45, 49])) e = ⟨true, [1], e⟩ := by simp [norm, unsign, vals, lead, core, trail]
    rw [ofS]
    simp only [if_true]
    rw [hi, hc, hn, if_pos rfl, hl]

theorem near_law {l : List UInt8} {x : D} {p : Int} (hr : readP l = some x) (hs : l.length ≤ 200) (h1 : -128 ≤ p) (h2 : p ≤ 127) :
    ∃ (G : List UInt8) (r : Nat), roundS l p = (G, r) ∧ G.length ≤ 500 ∧ (r = 2 ∨ (r = 0 ∧
      ∃ N, mulS l [45, 49, 101, 48] = (N, 0) ∧ N.length ≤ 500 ∧ ∃ D2 e2, addS G N = (D2, e2) ∧ D2.length ≤ 500 ∧ ∃ T e3, mulS D2 [50, 101, 48] = (T, e3) ∧ T.length ≤ 500 ∧
      ∃ U, ofS [49] (-p) = (U, 0) ∧ U.length ≤ 500 ∧ ∃ M, ofS [45, 49] (-p) = (M, 0) ∧ M.length ≤ 500 ∧ roundS G p = (G, 0) ∧
      (e2 ≠ 0 ∨ (e2 = 0 ∧ e3 ≠ 0) ∨ (e2 = 0 ∧ e3 = 0 ∧ cmpS T U ≤ 0 ∧ 0 ≤ cmpS T M)))) := by
  have hx := (readP_some hr).1
  have hxl : x.c.length ≤ 200 := by
    have h := (readP_some hr).2
    have := congrArg List.length h
    rw [showB, List.length_append, List.length_cons, coefB] at this
    split at this
    · rename_i h0; rw [h0]; simp
    · rw [List.length_append] at this; simp [digB] at this; omega
  obtain ⟨l1, l2, l3⟩ := limit_ok.1 hx.2
  have hnp : ¬(p < -2000 ∨ 2000 < p) := by omega
  obtain ⟨R, hR⟩ : ∃ R, roundP x p = R := ⟨_, rfl⟩
  have hro : roundS l p = (resS R, limit R) := by rw [roundS, hr]; simp only [if_neg hnp, hR]
  obtain ⟨f, hf⟩ : ∃ f, min x.e (-p) = f := ⟨_, rfl⟩
  have hnear := roundP_near hx.1 p (f := f) (by omega) (by omega)
  rw [hR] at hnear
  obtain ⟨n1, n2, n3, n4, n5⟩ := hnear
  have hRl : R.c.length ≤ 400 := by
    rw [← hR, roundP]
    split
    · omega
    · split
      · simp
      · simp only
        have hdd : Digs (0 :: x.c.take ((x.c.length : Int) - (-p - x.e)).toNat) := by
          intro y hy
          rcases List.mem_cons.1 hy with rfl | hy
          · omega
          · exact hx.1.1 y (List.mem_of_mem_take hy)
        obtain ⟨_, _, h5⟩ := incL_num _ hdd
        refine Nat.le_trans (norm_len _ _ _) ?_
        have h6 : (0 :: x.c.take ((x.c.length : Int) - (-p - x.e)).toNat).length ≤ 201 := by rw [List.length_cons, List.length_take]; omega
        split
        · omega
        · omega
  refine ⟨resS R, limit R, hro, resS_len R, ?_⟩
  by_cases hlR : limit R = 0
  · right
    refine ⟨hlR, resS (flip x), ?_, resS_len _, ?_⟩
    · rw [mulS, hr, lit_minus]
      simp only [times_minus hx.1]
      rw [flip_limit, hx.2]
    have hgR := resS_read n1 hlR
    have hgN := resS_read (flip_normal hx.1) (by rw [flip_limit]; exact hx.2)
    obtain ⟨Df, hDf⟩ : ∃ Df, sumP R (flip x) = Df := ⟨_, rfl⟩
    have hux : Under f x := Or.inr (by omega)
    have hsum := sumP_val n1 (flip_normal hx.1) n2 (flip_under hux)
    rw [hDf] at hsum
    have hDn : Normal Df := hDf ▸ sumP_normal n1 (flip_normal hx.1)
    refine ⟨resS Df, limit Df, by rw [addS, hgR, hgN]; simp only [hDf], resS_len _, ?_⟩
    obtain ⟨u1, u2⟩ := of_one false (e := -p) (by omega) (by omega)
    obtain ⟨m1, m2⟩ := of_one true (e := -p) (by omega) (by omega)
    have hag : roundS (resS R) p = (resS R, 0) := by
      rw [roundS, hgR]; simp only [if_neg hnp]
      rw [roundP_again p n3, hlR]
    obtain ⟨T, e3, hT⟩ : ∃ T e3, mulS (resS Df) [50, 101, 48] = (T, e3) := ⟨_, _, rfl⟩
    have hTl : T.length ≤ 500 := by
      rw [mulS, lit_two] at hT
      cases hq : readP (resS Df) with
      | none => rw [hq] at hT; cases hT; simp
      | some q => rw [hq] at hT; cases hT; exact resS_len _
    refine ⟨T, e3, hT, hTl, resS ⟨false, [1], -p⟩, u1, resS_len _, resS ⟨true, [1], -p⟩, m1, resS_len _, hag, ?_⟩
    by_cases hlD : limit Df = 0
    · by_cases hl3 : e3 = 0
      · right; right
        refine ⟨hlD, hl3, ?_⟩
        obtain ⟨Tw, hTw⟩ : ∃ Tw, prodP Df ⟨false, [2], 0⟩ = Tw := ⟨_, rfl⟩
        rw [mulS, lit_two, resS_read hDn hlD] at hT
        simp only [hTw] at hT
        obtain ⟨hT1, hT2⟩ := Prod.mk.inj hT
        have hlT : limit Tw = 0 := by omega
        have hTn : Normal Tw := hTw ▸ prodP_normal _ _
        have hrT : readP T = some Tw := by rw [← hT1]; exact resS_read hTn hlT
        obtain ⟨v1, v2⟩ := prodP_val (f := f) (g := 0) hDn two_normal hsum.2 (Or.inr (Int.le_refl _))
        rw [hTw, Int.add_zero] at v1 v2
        have hV2 : V ⟨false, [2], 0⟩ 0 = 2 := by decide
        rw [hV2, hsum.1, flip_val] at v1
        have hp1 : Under f ⟨false, [1], -p⟩ := Or.inr (by show f ≤ -p; omega)
        have hp2 : Under f ⟨true, [1], -p⟩ := Or.inr (by show f ≤ -p; omega)
        rw [cmpS, cmpS, hrT, resS_read (one_normal _ _) u2, resS_read (one_normal _ _) m2]
        simp only
        rw [cmpP_val hTn (one_normal _ _) v2 hp1, cmpP_val hTn (one_normal _ _) v2 hp2, v1, V_one, V_one]
        simp only [sgn, cmpI]
        generalize (10 : Int) ^ (-p - f).toNat = P at *
        constructor
        · simp only [Bool.false_eq_true, if_false]
          split
          · omega
          · split
            · omega
            · omega
        · simp only [if_true]
          split
          · omega
          · split
            · omega
            · omega
      · right; left; exact ⟨hlD, hl3⟩
    · left; exact hlD
  · left
    have : ¬ limit R = 6 := by rw [limit]; split; · omega
                               · split <;> omega
    unfold limit at hlR ⊢
    split
    · omega
    · rw [if_neg (by omega)] at hlR
      split
      · rfl
      · rename_i h; rw [if_neg h] at hlR; exact absurd rfl hlR
end Go.Proofs.YtmgafnflkfbckaaGreatDoor.Dc
