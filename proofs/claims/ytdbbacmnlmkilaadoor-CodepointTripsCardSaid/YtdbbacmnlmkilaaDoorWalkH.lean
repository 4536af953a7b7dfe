/- The contract of the program's 'extensible'. -/
import Derived.Test.YtdbbacmnlmkilaaDoorWalkC
import Derived.Test.YtdbbacmnlmkilaaDoorPlain2
namespace Go.Proofs.YtdbbacmnlmkilaaDoor
open Go.RowKit Go.Lib

theorem Cp.sizeB_cases (c : Nat) : (194 ≤ c ∧ c ≤ 223 ∧ Cp.sizeB c = 2) ∨ (224 ≤ c ∧ c ≤ 239 ∧ Cp.sizeB c = 3) ∨ (240 ≤ c ∧ c ≤ 244 ∧ Cp.sizeB c = 4) ∨ ((c < 194 ∨ 244 < c) ∧ Cp.sizeB c = 0) := by
  unfold Cp.sizeB
  repeat' split
  all_goals omega
theorem Cp.extF {l : List UInt8} {b : Bool} (h : Cp.ext l = b) : Ending.returned (.bool b) = Ending.returned (.bool (Cp.ext l)) := by rw [h]

set_option maxHeartbeats 4000000 in
set_option maxRecDepth 100000 in
theorem ext1 (c : UInt8) (b off cap : Nat) (w : World) (h0 : w.cell? ⟨b, off, none⟩ = some (.int .u8 (c.toNat : Int))) :
    Calls Tryd.prog 26 #[.slice (some ⟨b, off, none⟩) 1 cap] w fun e w' => e = .returned (.bool (Cp.ext [c])) ∧ w = w' := by
  have hc := c.toNat_lt
  have HS := Lib.hid (Cp.sizeB_cases c.toNat)
  have HE : Hid (Cp.ext [c] = decide (1 < Cp.sizeB c.toNat)) := rfl
  obtain ⟨x, hx⟩ : ∃ x, c.toNat = x := ⟨_, rfl⟩
  rw [hx] at h0 hc HS HE
  clear hx
  go_enter Tryd.func26, Tryd.ntmps26
  go_wp2
  all_goals go_ret
  all_goals
    have hs := HS.out
    refine ⟨Cp.extF ?_, rfl⟩
    rw [HE.out]
    first
      | (rw [decide_eq_true_eq]; omega)
      | (rw [decide_eq_decide]; omega)
      | (rw [decide_eq_false_iff_not]; omega)

set_option maxHeartbeats 4000000 in
set_option maxRecDepth 100000 in
theorem ext2 (c d : UInt8) (b off cap : Nat) (w : World) (h0 : w.cell? ⟨b, off, none⟩ = some (.int .u8 (c.toNat : Int))) (h1 : w.cell? ⟨b, off + 1, none⟩ = some (.int .u8 (d.toNat : Int))) :
    Calls Tryd.prog 26 #[.slice (some ⟨b, off, none⟩) 2 cap] w fun e w' => e = .returned (.bool (Cp.ext [c, d])) ∧ w = w' := by
  have hc := c.toNat_lt
  have hd := d.toNat_lt
  have HS := Lib.hid (Cp.sizeB_cases c.toNat)
  have HL := Lib.hid (Cp.lowB_eq c.toNat)
  have HH := Lib.hid (Cp.highB_eq c.toNat)
  have HE : Hid (Cp.ext [c, d] = decide (2 < Cp.sizeB c.toNat ∧ Cp.lowB c.toNat ≤ d.toNat ∧ d.toNat ≤ Cp.highB c.toNat)) := rfl
  obtain ⟨x, hx⟩ : ∃ x, c.toNat = x := ⟨_, rfl⟩
  obtain ⟨y, hy⟩ : ∃ y, d.toNat = y := ⟨_, rfl⟩
  rw [hx] at h0 hc HS HL HH HE
  rw [hy] at h1 hd HE
  clear hx hy
  rcases (show x = 224 ∨ x = 237 ∨ x = 240 ∨ x = 244 ∨ (x ≠ 224 ∧ x ≠ 237 ∧ x ≠ 240 ∧ x ≠ 244) by omega) with rfl | rfl | rfl | rfl | ⟨n1, n2, n3, n4⟩
  all_goals (try (have m1 : ((x : Int) == 224) = false := by simp; omega))
  all_goals (try (have m2 : ((x : Int) == 237) = false := by simp; omega))
  all_goals (try (have m3 : ((x : Int) == 240) = false := by simp; omega))
  all_goals (try (have m4 : ((x : Int) == 244) = false := by simp; omega))
  all_goals
    go_enter Tryd.func26, Tryd.ntmps26
    go_wp2
  all_goals go_ret
  all_goals
    have hs := HS.out
    have hl := HL.out
    have hh := HH.out
    refine ⟨Cp.extF ?_, rfl⟩
    rw [HE.out]
    first
      | (rw [decide_eq_true_eq]; omega)
      | (rw [decide_eq_decide]; omega)
      | (rw [decide_eq_false_iff_not]; omega)

set_option maxHeartbeats 4000000 in
set_option maxRecDepth 100000 in
theorem ext3 (c d f : UInt8) (b off cap : Nat) (w : World) (h0 : w.cell? ⟨b, off, none⟩ = some (.int .u8 (c.toNat : Int))) (h1 : w.cell? ⟨b, off + 1, none⟩ = some (.int .u8 (d.toNat : Int))) (h2 : w.cell? ⟨b, off + 2, none⟩ = some (.int .u8 (f.toNat : Int))) :
    Calls Tryd.prog 26 #[.slice (some ⟨b, off, none⟩) 3 cap] w fun e w' => e = .returned (.bool (Cp.ext [c, d, f])) ∧ w = w' := by
  have hc := c.toNat_lt
  have hd := d.toNat_lt
  have hf := f.toNat_lt
  have HS := Lib.hid (Cp.sizeB_cases c.toNat)
  have HL := Lib.hid (Cp.lowB_eq c.toNat)
  have HH := Lib.hid (Cp.highB_eq c.toNat)
  have HE : Hid (Cp.ext [c, d, f] = decide (0 + 3 < Cp.sizeB c.toNat ∧ (Cp.lowB c.toNat ≤ d.toNat ∧ d.toNat ≤ Cp.highB c.toNat) ∧ 128 ≤ f.toNat ∧ f.toNat ≤ 191)) := rfl
  obtain ⟨x, hx⟩ : ∃ x, c.toNat = x := ⟨_, rfl⟩
  obtain ⟨y, hy⟩ : ∃ y, d.toNat = y := ⟨_, rfl⟩
  obtain ⟨z, hz⟩ : ∃ z, f.toNat = z := ⟨_, rfl⟩
  rw [hx] at h0 hc HS HL HH HE
  rw [hy] at h1 hd HE
  rw [hz] at h2 hf HE
  clear hx hy hz
  rcases (show x = 224 ∨ x = 237 ∨ x = 240 ∨ x = 244 ∨ (x ≠ 224 ∧ x ≠ 237 ∧ x ≠ 240 ∧ x ≠ 244) by omega) with rfl | rfl | rfl | rfl | ⟨n1, n2, n3, n4⟩
  all_goals (try (have m1 : ((x : Int) == 224) = false := by simp; omega))
  all_goals (try (have m2 : ((x : Int) == 237) = false := by simp; omega))
  all_goals (try (have m3 : ((x : Int) == 240) = false := by simp; omega))
  all_goals (try (have m4 : ((x : Int) == 244) = false := by simp; omega))
  all_goals
    go_enter Tryd.func26, Tryd.ntmps26
    go_wp2
  all_goals go_ret
  all_goals
    have hs := HS.out
    have hl := HL.out
    have hh := HH.out
    refine ⟨Cp.extF ?_, rfl⟩
    rw [HE.out]
    first
      | (rw [decide_eq_true_eq]; omega)
      | (rw [decide_eq_decide]; omega)
      | (rw [decide_eq_false_iff_not]; omega)

/-- 'extensible', at every slice of one to three bytes. -/
theorem ext_any (l : List UInt8) (b off cap : Nat) (w : World) (hr : ∀ j d, l[j]? = some d → w.cell? ⟨b, off + j, none⟩ = some (.int .u8 (UInt8.toNat d : Int))) (h1 : 1 ≤ l.length) (h3 : l.length ≤ 3) :
    Calls Tryd.prog 26 #[.slice (some ⟨b, off, none⟩) l.length cap] w fun e w' => e = .returned (.bool (Cp.ext l)) ∧ w = w' := by
  match l, h1, h3, hr with
  | [c], _, _, hr => exact ext1 c b off cap w (hr 0 c rfl)
  | [c, d], _, _, hr => exact ext2 c d b off cap w (hr 0 c rfl) (hr 1 d rfl)
  | [c, d, f], _, _, hr => exact ext3 c d f b off cap w (hr 0 c rfl) (hr 1 d rfl) (hr 2 f rfl)
end Go.Proofs.YtdbbacmnlmkilaaDoor
