/- DecimalLaws' plain law. -/
import Derived.Test.YtmgafnflkfbckaaDoorPlain11
namespace Go.Proofs.YtmgafnflkfbckaaDoor.Dc
open Go Go.Lib

theorem common (x y z : D) : ∃ f : Int, Under f x ∧ Under f y ∧ Under f z := ⟨min x.e (min y.e z.e), Or.inr (by omega), Or.inr (by omega), Or.inr (by omega)⟩
theorem sumP_comm {x y : D} (hx : Normal x) (hy : Normal y) : sumP x y = sumP y x := by
  obtain ⟨f, ux, uy, _⟩ := common x y y
  obtain ⟨h1, h2⟩ := sumP_val hx hy ux uy
  obtain ⟨h3, h4⟩ := sumP_val hy hx uy ux
  exact V_inj (sumP_normal hx hy) (sumP_normal hy hx) h2 h4 (by rw [h1, h3]; omega)
theorem sumP_assoc {x y z : D} (hx : Normal x) (hy : Normal y) (hz : Normal z) : sumP (sumP x y) z = sumP x (sumP y z) := by
  obtain ⟨f, ux, uy, uz⟩ := common x y z
  obtain ⟨h1, h2⟩ := sumP_val hx hy ux uy
  obtain ⟨h3, h4⟩ := sumP_val hy hz uy uz
  obtain ⟨h5, h6⟩ := sumP_val (sumP_normal hx hy) hz h2 uz
  obtain ⟨h7, h8⟩ := sumP_val hx (sumP_normal hy hz) ux h4
  exact V_inj (sumP_normal (sumP_normal hx hy) hz) (sumP_normal hx (sumP_normal hy hz)) h6 h8 (by rw [h5, h7, h1, h3]; omega)
theorem prodP_comm {x y : D} (hx : Normal x) (hy : Normal y) : prodP x y = prodP y x := by
  obtain ⟨f, ux, uy, _⟩ := common x y y
  obtain ⟨h1, h2⟩ := prodP_val hx hy ux uy
  obtain ⟨h3, h4⟩ := prodP_val hy hx uy ux
  exact V_inj (prodP_normal x y) (prodP_normal y x) h2 h4 (by rw [h1, h3, Int.mul_comm])
theorem prodP_sum {x y z : D} (hx : Normal x) (hy : Normal y) (hz : Normal z) : sumP (prodP x y) (prodP x z) = prodP x (sumP y z) := by
  obtain ⟨f, ux, uy, uz⟩ := common x y z
  obtain ⟨h1, h2⟩ := sumP_val hy hz uy uz
  obtain ⟨h3, h4⟩ := prodP_val hx (sumP_normal hy hz) ux h2
  obtain ⟨h5, h6⟩ := prodP_val hx hy ux uy
  obtain ⟨h7, h8⟩ := prodP_val hx hz ux uz
  obtain ⟨h9, h10⟩ := sumP_val (prodP_normal x y) (prodP_normal x z) h6 h8
  exact V_inj (sumP_normal (prodP_normal x y) (prodP_normal x z)) (prodP_normal x _) h10 h4 (by rw [h9, h3, h5, h7, h1, Int.mul_add])
theorem cmpP_anti {x y : D} (hx : Normal x) (hy : Normal y) : cmpP y x = -cmpP x y := by
  obtain ⟨f, ux, uy, _⟩ := common x y y
  rw [cmpP_val hx hy ux uy, cmpP_val hy hx uy ux, cmpI, cmpI]
  repeat' split
  all_goals omega
theorem cmpP_zero {x y : D} (hx : Normal x) (hy : Normal y) : cmpP x y = 0 ↔ x = y := by
  obtain ⟨f, ux, uy, _⟩ := common x y y
  rw [cmpP_val hx hy ux uy, cmpI]
  constructor
  · intro h
    refine V_inj hx hy ux uy ?_
    split at h
    · omega
    · split at h
      · omega
      · omega
  · rintro rfl
    simp
theorem cmpP_sum {x y z : D} (hx : Normal x) (hy : Normal y) (hz : Normal z) : cmpP (sumP x z) (sumP y z) = cmpP x y := by
  obtain ⟨f, ux, uy, uz⟩ := common x y z
  obtain ⟨h1, h2⟩ := sumP_val hx hz ux uz
  obtain ⟨h3, h4⟩ := sumP_val hy hz uy uz
  rw [cmpP_val (sumP_normal hx hz) (sumP_normal hy hz) h2 h4, cmpP_val hx hy ux uy, h1, h3, cmpI, cmpI]
  repeat' split
  all_goals omega
theorem cmpP_range (x y : D) : -1 ≤ cmpP x y ∧ cmpP x y ≤ 1 := by
  have h := sg_range (magN x.c x.e y.c y.e)
  rw [cmpP]
  split
  · split <;> omega
  · split <;> omega

/-- The laws of Add, Mul and Cmp on three texts. -/
theorem three_laws {a b c : List UInt8} {x y z : D} (ha : readP a = some x) (hb : readP b = some y) (hc : readP c = some z) :
    ∃ XY e1 YZ e3 XZ e4 k, addS a b = (XY, e1) ∧ addS b a = (XY, e1) ∧ addS b c = (YZ, e3) ∧ addS a c = (XZ, e4) ∧ cmpS a b = k ∧ cmpS b a = -k ∧ -1 ≤ k ∧ k ≤ 1 ∧ (k = 0 ↔ a = b) ∧
      XY.length ≤ 500 ∧ YZ.length ≤ 500 ∧ XZ.length ≤ 500 ∧
      (e1 = 0 → e3 = 0 → e4 = 0 → ∃ L e5, addS XY c = (L, e5) ∧ addS a YZ = (L, e5) ∧ cmpS XZ YZ = k ∧
        ∃ P e7 Q e8 S e9, mulS a YZ = (P, e7) ∧ mulS a b = (Q, e8) ∧ mulS b a = (Q, e8) ∧ mulS a c = (S, e9) ∧ L.length ≤ 500 ∧ P.length ≤ 500 ∧ Q.length ≤ 500 ∧ S.length ≤ 500 ∧
          (e7 = 0 → e8 = 0 → e9 = 0 → addS Q S = (P, 0))) := by
  obtain ⟨⟨hx, lx⟩, sx⟩ := readP_some ha
  obtain ⟨⟨hy, ly⟩, sy⟩ := readP_some hb
  obtain ⟨⟨hz, lz⟩, sz⟩ := readP_some hc
  obtain ⟨r1, r2⟩ := cmpP_range x y
  refine ⟨resS (sumP x y), limit (sumP x y), resS (sumP y z), limit (sumP y z), resS (sumP x z), limit (sumP x z), cmpP x y, by rw [addS, ha, hb], by rw [addS, ha, hb]; simp only [sumP_comm hy hx], by rw [addS, hb, hc], by rw [addS, ha, hc], by rw [cmpS, ha, hb], by rw [cmpS, ha, hb]; exact cmpP_anti hx hy, r1, r2, ?_, resS_len _, resS_len _, resS_len _, ?_⟩
  · rw [cmpP_zero hx hy]
    constructor
    · rintro rfl; rw [← sx, ← sy]
    · rintro rfl; rw [ha] at hb; exact Option.some.inj hb
  intro h1 h3 h4
  have gxy := resS_read (sumP_normal hx hy) h1
  have gyz := resS_read (sumP_normal hy hz) h3
  have gxz := resS_read (sumP_normal hx hz) h4
  refine ⟨resS (sumP (sumP x y) z), limit (sumP (sumP x y) z), by rw [addS, gxy, hc], by rw [addS, ha, gyz]; simp only [sumP_assoc hx hy hz], by rw [cmpS, gxz, gyz]; exact cmpP_sum hx hy hz, ?_⟩
  refine ⟨resS (prodP x (sumP y z)), limit (prodP x (sumP y z)), resS (prodP x y), limit (prodP x y), resS (prodP x z), limit (prodP x z), by rw [mulS, ha, gyz], by rw [mulS, ha, hb], by rw [mulS, ha, hb]; simp only [prodP_comm hy hx], by rw [mulS, ha, hc], resS_len _, resS_len _, resS_len _, resS_len _, ?_⟩
  intro h7 h8 h9
  rw [addS, resS_read (prodP_normal _ _) h8, resS_read (prodP_normal _ _) h9]
  simp only [prodP_sum hx hy hz]
  rw [h7]
end Go.Proofs.YtmgafnflkfbckaaDoor.Dc
