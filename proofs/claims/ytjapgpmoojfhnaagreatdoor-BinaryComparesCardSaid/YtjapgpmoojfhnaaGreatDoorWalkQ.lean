/- The reference's text of a word's float is the canonical text; Bitlen. -/
import Derived.Test.YtjapgpmoojfhnaaGreatDoorWalkP
namespace Go.Proofs.YtjapgpmoojfhnaaGreatDoor
open Go.RowKit Go.Lib

theorem sgn_same (b : Nat) : sgnS (decide (9223372036854775808 ≤ b)) = Fl.sgB b := by
  unfold sgnS Fl.sgB
  by_cases h : 9223372036854775808 ≤ b
  · rw [decide_eq_true h, if_pos rfl, if_pos h]
  · rw [decide_eq_false h, if_neg (by simp), if_neg h]
theorem reftext_any (b : Nat) (w : World) : Calls Tryz.prog 15 #[Fl.refF b] w fun x w' => x = .returned (.string ⟨(Fl.txt b).toArray⟩) ∧ Below w.heap.size w w' := by
  unfold Fl.refF Fl.txt
  by_cases h1 : 9218868437227405312 < b % 9223372036854775808
  · rw [if_pos h1, if_pos h1]
    exact floattext_nan 0 0 w
  · rw [if_neg h1, if_neg h1]
    by_cases h2 : b % 9223372036854775808 = 9218868437227405312
    · rw [if_pos h2, if_pos h2, ← sgn_same]
      exact floattext_inf _ 0 0 w
    · rw [if_neg h2, if_neg h2]
      by_cases h3 : b % 9223372036854775808 = 0
      · rw [if_pos h3, if_pos h3, ← sgn_same]
        have h := floattext_num (decide (9223372036854775808 ≤ b)) 0 0 w (by omega) (by omega)
        have e : decDigits 0 ++ 112 :: itoa 0 = [48, 112, 48] := by
          rw [show itoa 0 = decDigits 0 from itoa_nonneg 0, decDigits_one (by omega)]
          rfl
        rw [e] at h
        exact h
      · rw [if_neg h3, if_neg h3, ← sgn_same]
        have h0 : 0 < b % 9223372036854775808 := by omega
        obtain ⟨_, _, _, a4⟩ := Fl.om_spec h0
        obtain ⟨_, b2, b3, _⟩ := Fl.om_bounds h0 (by omega)
        exact floattext_num _ (Fl.om (b % 9223372036854775808)) (Fl.oe (b % 9223372036854775808)) w (by omega) (by omega)
set_option maxHeartbeats 1000000 in
set_option maxRecDepth 100000 in
theorem bitlen_any (m : Nat) (w : World) (hm : m < 18446744073709551616) : Calls Tryz.prog 69 #[.int .u64 (m : Int)] w fun x w' => x = .returned (.int .i64 (Lib.bitLen m : Nat)) ∧ w' = w := by
  go_enter Tryz.func69, Tryz.ntmps69
  go_wp2_with fail
  go_loopg [0, 3] 64 (fun f t0 t3 wx => ∃ (x k : Nat), t0 = .int .u64 (x : Int) ∧ t3 = .int .i64 (k : Int) ∧ x < 2 ^ f ∧ x ≤ m ∧ k + f ≤ 64 ∧ k + Lib.bitLen x = Lib.bitLen m ∧ wx = w)
  case atStart => exact ⟨m, 0, rfl, rfl, by omega, Nat.le_refl _, by omega, by omega, rfl⟩
  case round =>
    obtain ⟨x, k, rfl, rfl, hxf, hxm, hkf, hk, rfl⟩ := hrel
    have HK := Lib.hid hk
    have HF := Lib.hid hxf
    clear hk hxf
    by_cases hx : x = 0
    · subst hx
      go_wp2_with fail
      go_ret
      refine ⟨?_, rfl⟩
      have h := HK.out
      have e : Lib.bitLen 0 = 0 := by decide
      rw [e] at h
      rw [← h]
      rfl
    · obtain ⟨f, rfl⟩ : ∃ f, gk = f + 1 := ⟨gk - 1, by
        rcases Nat.eq_zero_or_pos gk with h | h
        · have := HF.out; subst h; simp at this; omega
        · omega⟩
      have hxp : (0 : Int) < (x : Int) := by omega
      obtain ⟨y, hy⟩ : ∃ y, x / 2 = y := ⟨_, rfl⟩
      have g4 : (x : Int) / 2 = (y : Int) := by omega
      have g7 : IntKind.u64.wrap (y : Int) = (y : Int) := by rw [IntKind.wrap_u64]; omega
      have g8 : IntKind.i64.wrap ((k : Int) + 1) = (k : Int) + 1 := IntWalk.i64_in _ (by omega)
      have hym : y ≤ m := by omega
      have hyf : y < 2 ^ f := by have := HF.out; rw [Nat.pow_succ] at this; omega
      have hh := Lib.bitLen_half x hx (by omega)
      rw [hy] at hh
      have HH := Lib.hid (And.intro hh hyf)
      clear hh hyf hy hx
      go_wp2_with fail
      go_roundg f
      case measure => omega
      case rel =>
        have h1 := HK.out
        have h2 := HH.out.1
        exact ⟨y, k + 1, rfl, by go_num, HH.out.2, hym, by omega, by omega, rfl⟩
end Go.Proofs.YtjapgpmoojfhnaaGreatDoor
