/- Floating-point numbers as bits. -/
import Derived.Test.YtjapgpmoojfhnaaGreatDoorShelf
import Derived.Test.YtjapgpmoojfhnaaGreatDoorPlainA
import Derived.WalkKit
import Derived.WalkSpells
import Derived.WalkLawsBesides
import Derived.PartsItems
import Derived.Items
import Derived.HeadItems
import Derived.CheckFast
import Derived.KernelRfl
import Derived.Laws.Externs
import Derived.Laws.BitsAllLaws
namespace Go.Proofs.YtjapgpmoojfhnaaGreatDoor
open Go.RowKit Go.Lib

theorem run_bits (b : Nat) (w : World) : (callFunc 115 #[.float .f64 b]).run Tryz.prog w = .ok (.value (.int .u64 (b : Int))) w := by
  rw [run_callFunc_extern (fn := Tryz.f115) (e := Go.Extern.MathFloatBits.float64bits) (by kernel_rfl) (by kernel_rfl) (by kernel_rfl) (by kernel_rfl) (by rfl)]
  rfl
theorem run_frombits (b : Nat) (w : World) : (callFunc 29 #[.int .u64 (b : Int)]).run Tryz.prog w = .ok (.value (.float .f64 b)) w := by
  rw [run_callFunc_extern (fn := Tryz.f29) (e := Go.Extern.MathFloatBits.float64frombits) (by kernel_rfl) (by kernel_rfl) (by kernel_rfl) (by kernel_rfl) (by rfl)]
  rfl

theorem andNot_top (b : Nat) (hb : b < 18446744073709551616) : bits .andNot .u64 (b : Int) 9223372036854775808 = ((b % 9223372036854775808 : Nat) : Int) := by
  have h := u64_andNot_nat b 9223372036854775808 hb (by decide)
  have e : b &&& (18446744073709551615 - 9223372036854775808) = b % 9223372036854775808 := Nat.and_two_pow_sub_one_eq_mod b 63
  rw [e] at h
  exact h
theorem and_top (b : Nat) (hb : b < 18446744073709551616) : bits .and .u64 (b : Int) 9223372036854775808 = ((b / 9223372036854775808 * 9223372036854775808 : Nat) : Int) := by
  have h := u64_and_nat b 9223372036854775808 hb (by decide)
  rw [nat_hi64_63, Nat.mod_eq_of_lt hb] at h
  exact h
theorem or_top (a s : Nat) (ha : a < 9223372036854775808) (hs : s < 2) : bits .or .u64 (a : Int) ((s * 9223372036854775808 : Nat) : Int) = ((a + s * 9223372036854775808 : Nat) : Int) := by
  have h := u64_or_nat a (s * 9223372036854775808) (by omega) (by omega)
  have e : a ||| s * 9223372036854775808 = a + s * 9223372036854775808 := by
    rw [Nat.or_comm, Nat.mul_comm, ← Nat.two_pow_add_eq_or_of_lt (i := 63) ha s, Nat.add_comm]
  rw [e] at h
  exact h
set_option maxRecDepth 100000 in
theorem abs_any (b : Nat) (w : World) (hb : b < 18446744073709551616) : Calls Tryz.prog 100 #[.float .f64 b] w fun x w' => x = .returned (.float .f64 (b % 9223372036854775808)) ∧ w' = w := by
  have h1 := fun W => run_bits b W
  have h2 := andNot_top b hb
  obtain ⟨m, hm⟩ : ∃ m, b % 9223372036854775808 = m := ⟨_, rfl⟩
  rw [hm] at h2 ⊢
  have h3 := fun W => run_frombits m W
  clear hm
  go_enter Tryz.func100, Tryz.ntmps100
  go_wp2_with fail
  go_ret
  exact ⟨rfl, rfl⟩
set_option maxRecDepth 100000 in
theorem signbit_any (b : Nat) (w : World) (hb : b < 18446744073709551616) : Calls Tryz.prog 65 #[.float .f64 b] w fun x w' => x = .returned (.bool (decide (9223372036854775808 ≤ b))) ∧ w' = w := by
  have h1 := fun W => run_bits b W
  by_cases h : 9223372036854775808 ≤ b
  · have h2 : IntKind.i64.wrap (b : Int) = (b : Int) - 18446744073709551616 := by rw [IntKind.wrap_i64]; omega
    have h3 : (b : Int) - 18446744073709551616 < 0 := by omega
    rw [decide_eq_true h]
    go_enter Tryz.func65, Tryz.ntmps65
    go_wp2_with fail
    go_ret
    exact ⟨rfl, rfl⟩
  · have h2 : IntKind.i64.wrap (b : Int) = (b : Int) := IntWalk.i64_in _ (by omega)
    have h3 : ¬ (b : Int) < 0 := by omega
    rw [decide_eq_false h]
    go_enter Tryz.func65, Tryz.ntmps65
    go_wp2_with fail
    go_ret
    exact ⟨rfl, rfl⟩
set_option maxRecDepth 100000 in
theorem copysign_any (b c : Nat) (w : World) (hb : b < 18446744073709551616) (hc : c < 18446744073709551616) : Calls Tryz.prog 64 #[.float .f64 b, .float .f64 c] w fun x w' => x = .returned (.float .f64 (b % 9223372036854775808 + c / 9223372036854775808 * 9223372036854775808)) ∧ w' = w := by
  have h1 := fun W => run_bits b W
  have h1' := fun W => run_bits c W
  have h2 := andNot_top b hb
  have h3 := and_top c hc
  have h4 := or_top (b % 9223372036854775808) (c / 9223372036854775808) (Nat.mod_lt _ (by decide)) (by omega)
  have h5 := fun W => run_frombits (b % 9223372036854775808 + c / 9223372036854775808 * 9223372036854775808) W
  obtain ⟨m, hm⟩ : ∃ m, b % 9223372036854775808 = m := ⟨_, rfl⟩
  obtain ⟨k, hk⟩ : ∃ k, c / 9223372036854775808 * 9223372036854775808 = k := ⟨_, rfl⟩
  obtain ⟨z, hz⟩ : ∃ z, m + k = z := ⟨_, rfl⟩
  rw [hm] at h2
  rw [hk] at h3
  rw [hm, hk, hz] at h4 h5 ⊢
  clear hm hk hz
  go_enter Tryz.func64, Tryz.ntmps64
  go_wp2_with fail
  go_ret
  exact ⟨rfl, rfl⟩
set_option maxRecDepth 100000 in
theorem nan_any (w : World) : Calls Tryz.prog 103 #[] w fun x w' => x = .returned (.float .f64 9221120237041090561) ∧ w' = w := by
  have h5 : ∀ W, (callFunc 29 #[.int .u64 9221120237041090561]).run Tryz.prog W = .ok (.value (.float .f64 9221120237041090561)) W := fun W => run_frombits 9221120237041090561 W
  go_enter Tryz.func103, Tryz.ntmps103
  go_wp2_with fail
  go_ret
  exact ⟨rfl, rfl⟩
set_option maxRecDepth 100000 in
theorem inf_any (k : Int) (w : World) (hk : 0 ≤ k) : Calls Tryz.prog 62 #[.int .i64 k] w fun x w' => x = .returned (.float .f64 9218868437227405312) ∧ w' = w := by
  have h5 : ∀ W, (callFunc 29 #[.int .u64 9218868437227405312]).run Tryz.prog W = .ok (.value (.float .f64 9218868437227405312)) W := fun W => run_frombits 9218868437227405312 W
  go_enter Tryz.func62, Tryz.ntmps62
  go_wp2_with fail
  go_ret
  exact ⟨rfl, rfl⟩
theorem inf_rung : Ieee.double.infRung = 9218868437227405312 := by decide
theorem sign_weight : Ieee.double.signWeight = 9223372036854775808 := by decide
theorem binade_is : Ieee.double.binade = 4503599627370496 := by decide
theorem read_num (r : Nat) (h : r < 9218868437227405312) : Ieee.double.read r = .number false (Fl.rmag Ieee.double r) (Fl.rplace Ieee.double r) := by
  have h2 := Fl.read_rung Ieee.double false (r := r) (by rw [inf_rung]; exact h)
  exact h2
theorem read_inf : Ieee.double.read 9218868437227405312 = .infinity false := by decide
theorem read_nan (r : Nat) (h : 9218868437227405312 < r) (h2 : r < 9223372036854775808) : ∃ t, Ieee.double.read r = .nan false t := by
  refine ⟨r - 9218868437227405312, ?_⟩
  unfold Ieee.Format.read
  simp only [inf_rung, sign_weight, binade_is, Nat.mod_eq_of_lt h2, Nat.div_eq_of_lt h2]
  rw [if_neg (by omega), if_neg (by omega), if_neg (by omega)]
  rfl
theorem order_max (r : Nat) (hr : r < 9223372036854775808) : (FloatKind.f64.format.order r 9218868437227405311 == some Ordering.gt) = (r == 9218868437227405312) := by
  show (Ieee.Datum.order (Ieee.double.read r) (Ieee.double.read 9218868437227405311) == some Ordering.gt) = _
  rw [read_num 9218868437227405311 (by decide)]
  rcases Nat.lt_trichotomy r 9218868437227405312 with h | h | h
  · rw [read_num r h, Fl.order_rungs]
    have e : (r == 9218868437227405312) = false := by rw [beq_eq_false_iff_ne]; omega
    have hle : Fl.sval Ieee.double false r ≤ Fl.sval Ieee.double false 9218868437227405311 := by
      show (Fl.val Ieee.double r : Int) ≤ (Fl.val Ieee.double 9218868437227405311 : Int)
      by_cases h2 : r = 9218868437227405311
      · rw [h2]; exact Int.le_refl _
      · have := Fl.val_lt (f := Ieee.double) (r := r) (s := 9218868437227405311) (by omega)
        omega
    rw [e, beq_eq_false_iff_ne]
    intro hh
    have := Int.compare_eq_gt.1 (Option.some.inj hh)
    omega
  · subst h
    rw [read_inf]
    rfl
  · obtain ⟨t, ht⟩ := read_nan r h hr
    rw [ht]
    have e : (r == 9218868437227405312) = false := by rw [beq_eq_false_iff_ne]; omega
    rw [e]
    rfl
set_option maxRecDepth 100000 in
theorem isinf_any (b : Nat) (w : World) (hb : b < 18446744073709551616) : Calls Tryz.prog 56 #[.float .f64 b, .int .i64 0] w fun x w' => x = .returned (.bool (b % 9223372036854775808 == 9218868437227405312)) ∧ w' = w := by
  have AB := Lib.hid (fun W => abs_any b W hb)
  go_enter Tryz.func56, Tryz.ntmps56
  go_wp2_with fail
  refine (AB.out _).mono ?_
  rintro x w1 ⟨rfl, rfl⟩
  have hO := order_max (b % 9223372036854775808) (Nat.mod_lt _ (by decide))
  go_wp2_with fail
  go_ret
  exact ⟨rfl, rfl⟩
end Go.Proofs.YtjapgpmoojfhnaaGreatDoor
