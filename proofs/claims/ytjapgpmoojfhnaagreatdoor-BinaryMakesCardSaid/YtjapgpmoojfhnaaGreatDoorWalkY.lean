/- round: m / 2^n, the half to even. -/
import Derived.Test.YtjapgpmoojfhnaaGreatDoorApp
import Derived.Test.YtjapgpmoojfhnaaGreatDoorPlainA
import Derived.Laws.BitsAllLaws
namespace Go.Proofs.YtjapgpmoojfhnaaGreatDoor
open Go.RowKit Go.Lib

theorem below_drewN' {B : Nat} {w w' : World} (h : Below B w w') (n : Nat) : Below B w (w'.drewN n) := by
  obtain ⟨a, b, c, d, e⟩ := h
  exact ⟨a, b, c, d, e⟩
set_option maxHeartbeats 1000000 in
set_option maxRecDepth 100000 in
theorem round_any (m c : Nat) (w : World) (h0 : 0 < m) (hm : m < 9007199254740992) (hc : 0 < c) (hc2 : c ≤ 10000) :
    Calls Tryz.prog 68 #[.int .u64 (m : Int), .int .i64 (c : Int)] w fun x w' => x = .returned (.tuple #[.int .u64 (Fl.rnd m c : Nat), .bool (m % 2 ^ c == 0)]) ∧ Below w.heap.size w w' := by
  by_cases hbig : 63 < c
  · have hp : m < 2 ^ (c - 1) := Nat.lt_of_lt_of_le hm (Nat.le_trans (by decide : 9007199254740992 ≤ 2 ^ 63) (Nat.pow_le_pow_right (by decide) (by omega)))
    have e1 : Fl.rnd m c = 0 := Fl.rnd_far hp hc
    have e2 : (m % 2 ^ c == 0) = false := by
      rw [beq_eq_false_iff_ne, Nat.mod_eq_of_lt (Nat.lt_of_lt_of_le hp (Nat.pow_le_pow_right (by decide) (by omega)))]
      omega
    rw [e1, e2]
    have c1 : decide ((63 : Int) < (c : Int)) = true := decide_eq_true (by omega)
    clear hbig hp e1 e2 h0 hm hc hc2
    go_enter Tryz.func68, Tryz.ntmps68
    go_wp2_with fail
    go_ret2
    exact ⟨rfl, Below.refl _ _⟩
  · have c1 : decide ((63 : Int) < (c : Int)) = false := decide_eq_false (by omega)
    obtain ⟨R, hR⟩ : ∃ R, m % 2 ^ c = R := ⟨_, rfl⟩
    obtain ⟨Q, hQ⟩ : ∃ Q, m / 2 ^ c = Q := ⟨_, rfl⟩
    obtain ⟨H, hH⟩ : ∃ H, 2 ^ (c - 1) = H := ⟨_, rfl⟩
    obtain ⟨V, hV⟩ : ∃ V, Fl.rnd m c = V := ⟨_, rfl⟩
    have hVQ : V = Q + (if H < R ∨ (R = H ∧ Q % 2 = 1) then 1 else 0) := by rw [← hV, ← hR, ← hQ, ← hH]; rfl
    rw [hR, hV]
    obtain ⟨P, hP⟩ : ∃ P, 2 ^ c = P := ⟨_, rfl⟩
    have hP0 : 0 < P := by rw [← hP]; exact Nat.two_pow_pos _
    have hPle : P ≤ 9223372036854775808 := by rw [← hP]; exact Nat.le_trans (Nat.pow_le_pow_right (by decide) (show c ≤ 63 by omega)) (by decide)
    have hHP : P = 2 * H := by rw [← hP, ← hH, ← Nat.pow_succ']; congr 1; omega
    have hRm : R < P := by rw [← hR, ← hP]; exact Nat.mod_lt _ (Nat.two_pow_pos _)
    have hQm : Q ≤ m := by rw [← hQ]; exact Nat.div_le_self _ _
    have g0 : ((2 : Int) ^ c) = (P : Int) := by rw [← hP]; simp
    have g1 : (m : Int) / 2 ^ c = (Q : Int) := by rw [g0, ← hQ, hP]; rfl
    have g2 : IntKind.u64.wrap (2 ^ c) = (P : Int) := by rw [g0, IntKind.wrap_u64]; omega
    have g3 : IntKind.u64.wrap ((P : Int) - 1) = ((P - 1 : Nat) : Int) := by rw [IntKind.wrap_u64]; omega
    have g4 : bits .and .u64 (m : Int) ((P - 1 : Nat) : Int) = (R : Int) := by
      have h1 := u64_and_nat m (P - 1) (by omega) (by omega)
      have e : m &&& (P - 1) = R := by rw [← hP, ← hR]; exact Nat.and_two_pow_sub_one_eq_mod m c
      rw [e] at h1
      exact h1
    have g5 : IntKind.u64.wrap (2 ^ (c - 1)) = (H : Int) := by
      have : ((2 : Int) ^ (c - 1)) = (H : Int) := by rw [← hH]; simp
      rw [this, IntKind.wrap_u64]; omega
    have g6 : bits .and .u64 (Q : Int) 1 = ((Q % 2 : Nat) : Int) := by
      have h1 := u64_and_nat Q 1 (by omega) (by decide)
      rw [Nat.and_one_is_mod] at h1
      exact h1
    have g7 : ((R : Int) == 0) = (R == 0) := by
      by_cases h : R = 0
      · rw [h]; rfl
      · rw [show (R == 0) = false by rw [beq_eq_false_iff_ne]; exact h, beq_eq_false_iff_ne]; omega
    have g8 : IntKind.u64.wrap ((Q : Int) + 1) = ((Q + 1 : Nat) : Int) := by rw [IntKind.wrap_u64]; omega
    obtain ⟨Z, hZ⟩ : ∃ Z, (R == 0) = Z := ⟨_, rfl⟩
    rw [hZ] at g7 ⊢
    obtain ⟨P1, hP1⟩ : ∃ P1, P - 1 = P1 := ⟨_, rfl⟩
    obtain ⟨q2, hq2⟩ : ∃ q2, Q % 2 = q2 := ⟨_, rfl⟩
    obtain ⟨Q1, hQ1⟩ : ∃ Q1, Q + 1 = Q1 := ⟨_, rfl⟩
    rw [hP1] at g3 g4
    rw [hq2] at g6 hVQ
    rw [hQ1] at g8
    have hc63 : c ≤ 63 := by omega
    clear hbig hR hQ hH hV g0 hP hZ hP1 hc2 hm hPle hQm hP0 hRm
    by_cases a1 : H < R
    · have c2 : decide (H < R) = true := decide_eq_true (by omega)
      have HV := Lib.hid (show V = Q1 by rw [hVQ, if_pos (.inl a1)]; omega)
      clear hVQ a1 hq2 hQ1 hHP h0
      go_enter Tryz.func68, Tryz.ntmps68
      go_wp2_with fail
      go_quiet (fail)
      go_wp2_with fail
      go_ret2
      exact ⟨by rw [HV.out]; rfl, below_drewN' (Below.refl _ _) _⟩
    · have c2 : decide (H < R) = false := decide_eq_false (by omega)
      by_cases a2 : R = H
      · by_cases a3 : q2 = 1
        · have HV := Lib.hid (show V = Q1 by rw [hVQ, if_pos (.inr ⟨a2, a3⟩)]; omega)
          subst a2
          subst a3
          clear hVQ a1 hQ1 hHP h0
          go_enter Tryz.func68, Tryz.ntmps68
          go_wp2_with fail
          go_quiet (fail)
          go_wp2_with fail
          go_ret2
          exact ⟨by rw [HV.out]; rfl, below_drewN' (Below.refl _ _) _⟩
        · have c4 : ((q2 : Int) == 1) = false := by rw [beq_eq_false_iff_ne]; omega
          have HV := Lib.hid (show V = Q by rw [hVQ, if_neg (by omega)]; omega)
          subst a2
          clear hVQ a1 a3 hq2 hQ1 hHP h0
          go_enter Tryz.func68, Tryz.ntmps68
          go_wp2_with fail
          go_quiet (fail)
          go_wp2_with fail
          go_ret2
          exact ⟨by rw [HV.out]; rfl, below_drewN' (Below.refl _ _) _⟩
      · have c3 : ((R : Int) == (H : Int)) = false := by rw [beq_eq_false_iff_ne]; omega
        have HV := Lib.hid (show V = Q by rw [hVQ, if_neg (by omega)]; omega)
        clear hVQ a1 a2 hq2 hQ1 hHP h0
        go_enter Tryz.func68, Tryz.ntmps68
        go_wp2_with fail
        go_quiet (fail)
        go_wp2_with fail
        go_ret2
        exact ⟨by rw [HV.out]; rfl, below_drewN' (Below.refl _ _) _⟩
end Go.Proofs.YtjapgpmoojfhnaaGreatDoor
