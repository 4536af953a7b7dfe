/- math/bits.TrailingZeros64 at this translation, by the library's contract. Floating-point numbers as bits. math.Ldexp, where the result is exact. What the listed variables hold; the contracts of the library in the words used here. The significand and the exponent of a float. strconv.FormatUint at base ten. -/
import Derived.Test.YtjapgpmoojfhnaaGreatDoorB01
import Derived.Test.YtjapgpmoojfhnaaGreatDoorB09
import Derived.Test.YtjapgpmoojfhnaaGreatDoorB10
import Derived.Shelf.Spec.TrailingZeros
import Derived.KernelRfl
import Derived.WalkKit
import Derived.WalkSpells
import Derived.WalkLawsBesides
import Derived.PartsItems
import Derived.Items
import Derived.HeadItems
import Derived.CheckFast
import Derived.Laws.Externs
import Derived.Laws.BitsAllLaws
import Derived.Lib.AppendIntMem
import Derived.Lib.ItoaMem
set_option maxHeartbeats 16000000
set_option maxRecDepth 100000
set_option linter.unusedSimpArgs false
set_option linter.unusedVariables false
namespace Go.Proofs.YtjapgpmoojfhnaaGreatDoor
open Go.RowKit Go.Lib
def tzRen : Go.Shelf.Ren := ⟨fun | 29 => 82 | n => n, fun | 0 => 0 | 3 => 3 | 4 => 4 | 5 => 5 | 22 => 22 | 25 => 51 | 54 => 168 | n => n, fun | 1 => 2 | n => n⟩
theorem tzLays : Go.Proofs.Lays7.n29 Tryz.prog tzRen := {
 mixed := by kernel_rfl
 f29 := Tryz.func82.trans (congrArg some (by kernel_rfl))
 t0 := Tryz.underlying0
 a0 := Tryz.isAgg0
 z0 := Tryz.sizeOf0
 v0 := Tryz.zeroValue0
 i0 := by kernel_rfl
 t3 := Tryz.underlying3
 a3 := Tryz.isAgg3
 z3 := Tryz.sizeOf3
 v3 := Tryz.zeroValue3
 i3 := by kernel_rfl
 t4 := Tryz.underlying4
 a4 := Tryz.isAgg4
 z4 := Tryz.sizeOf4
 v4 := Tryz.zeroValue4
 i4 := by kernel_rfl
 t5 := Tryz.underlying5
 a5 := Tryz.isAgg5
 z5 := Tryz.sizeOf5
 v5 := Tryz.zeroValue5
 i5 := by kernel_rfl
 t22 := Tryz.underlying22
 a22 := Tryz.isAgg22
 z22 := Tryz.sizeOf22
 v22 := Tryz.zeroValue22
 i22 := by kernel_rfl
 t25 := Tryz.underlying51
 a25 := Tryz.isAgg51
 z25 := Tryz.sizeOf51
 v25 := Tryz.zeroValue51
 i25 := by kernel_rfl
 t54 := Tryz.underlying168
 a54 := Tryz.isAgg168
 z54 := Tryz.sizeOf168
 g1 := by kernel_rfl }
theorem tz_any (x : Nat) (hx : x < 18446744073709551616) (w : World) (hT : TabAt 2 Lib.deBruijn64tab w) :
 Calls Tryz.prog 82 #[.int .u64 (x : Int)] w fun e w' => e = .returned (.int .i64 (Lib.ctz 64 x : Nat)) ∧ w' = w :=
 Any7.bits_TrailingZeros64 tzLays x hx w (fun _ => hT)
theorem run_bits (b : Nat) (w : World) : (callFunc 115 #[.float .f64 b]).run Tryz.prog w = .ok (.value (.int .u64 (b : Int))) w := by
 rw [run_callFunc_extern (fn := Tryz.f115) (e := Go.Extern.MathFloatBits.float64bits) (by kernel_rfl) (by kernel_rfl) (by kernel_rfl) (by kernel_rfl) (by rfl)]
 rfl
theorem run_frombits (b : Nat) (w : World) : (callFunc 29 #[.int .u64 (b : Int)]).run Tryz.prog w = .ok (.value (.float .f64 b)) w := by
 rw [run_callFunc_extern (fn := Tryz.f29) (e := Go.Extern.MathFloatBits.float64frombits) (by kernel_rfl) (by kernel_rfl) (by kernel_rfl) (by kernel_rfl) (by rfl)]
 rfl
theorem andNot_top (b : Nat) (hb : b < 18446744073709551616) : bits .andNot .u64 (b : Int) 9223372036854775808 = ((b % 9223372036854775808 : Nat) : Int) := by
 have h := u64_andNot_nat b 9223372036854775808 hb (by decide)
 have e : b &&& (18446744073709551615 - 9223372036854775808) = b % 9223372036854775808 := Nat.and_two_pow_sub_one_eq_mod b 63
 rw [e] at h
 exact h
theorem and_top (b : Nat) (hb : b < 18446744073709551616) : bits .and .u64 (b : Int) 9223372036854775808 = ((b / 9223372036854775808 * 9223372036854775808 : Nat) : Int) := by
 have h := u64_and_nat b 9223372036854775808 hb (by decide)
 rw [nat_hi64_63, Nat.mod_eq_of_lt hb] at h
 exact h
theorem or_top (a s : Nat) (ha : a < 9223372036854775808) (hs : s < 2) : bits .or .u64 (a : Int) ((s * 9223372036854775808 : Nat) : Int) = ((a + s * 9223372036854775808 : Nat) : Int) := by
 have h := u64_or_nat a (s * 9223372036854775808) (by omega) (by omega)
 have e : a ||| s * 9223372036854775808 = a + s * 9223372036854775808 := by
  rw [Nat.or_comm, Nat.mul_comm, ← Nat.two_pow_add_eq_or_of_lt (i := 63) ha s, Nat.add_comm]
 rw [e] at h
 exact h
theorem abs_any (b : Nat) (w : World) (hb : b < 18446744073709551616) : Calls Tryz.prog 100 #[.float .f64 b] w fun x w' => x = .returned (.float .f64 (b % 9223372036854775808)) ∧ w' = w := by
 have h1 := fun W => run_bits b W
 have h2 := andNot_top b hb
 obtain ⟨m, hm⟩ : ∃ m, b % 9223372036854775808 = m := ⟨_, rfl⟩
 rw [hm] at h2 ⊢
 have h3 := fun W => run_frombits m W
 clear hm
 go_enter Tryz.func100, Tryz.ntmps100
 go_wp2_with fail
 go_ret
 exact ⟨rfl, rfl⟩
theorem signbit_any (b : Nat) (w : World) (hb : b < 18446744073709551616) : Calls Tryz.prog 65 #[.float .f64 b] w fun x w' => x = .returned (.bool (decide (9223372036854775808 ≤ b))) ∧ w' = w := by
 have h1 := fun W => run_bits b W
 by_cases h : 9223372036854775808 ≤ b
 · have h2 : IntKind.i64.wrap (b : Int) = (b : Int) - 18446744073709551616 := by rw [IntKind.wrap_i64]; omega
   have h3 : (b : Int) - 18446744073709551616 < 0 := by omega
   rw [decide_eq_true h]
   go_enter Tryz.func65, Tryz.ntmps65
   go_wp2_with fail
   go_ret
   exact ⟨rfl, rfl⟩
 · have h2 : IntKind.i64.wrap (b : Int) = (b : Int) := IntWalk.i64_in _ (by omega)
   have h3 : ¬ (b : Int) < 0 := by omega
   rw [decide_eq_false h]
   go_enter Tryz.func65, Tryz.ntmps65
   go_wp2_with fail
   go_ret
   exact ⟨rfl, rfl⟩
theorem copysign_any (b c : Nat) (w : World) (hb : b < 18446744073709551616) (hc : c < 18446744073709551616) : Calls Tryz.prog 64 #[.float .f64 b, .float .f64 c] w fun x w' => x = .returned (.float .f64 (b % 9223372036854775808 + c / 9223372036854775808 * 9223372036854775808)) ∧ w' = w := by
 have h1 := fun W => run_bits b W
 have h1' := fun W => run_bits c W
 have h2 := andNot_top b hb
 have h3 := and_top c hc
 have h4 := or_top (b % 9223372036854775808) (c / 9223372036854775808) (Nat.mod_lt _ (by decide)) (by omega)
 have h5 := fun W => run_frombits (b % 9223372036854775808 + c / 9223372036854775808 * 9223372036854775808) W
 obtain ⟨m, hm⟩ : ∃ m, b % 9223372036854775808 = m := ⟨_, rfl⟩
 obtain ⟨k, hk⟩ : ∃ k, c / 9223372036854775808 * 9223372036854775808 = k := ⟨_, rfl⟩
 obtain ⟨z, hz⟩ : ∃ z, m + k = z := ⟨_, rfl⟩
 rw [hm] at h2
 rw [hk] at h3
 rw [hm, hk, hz] at h4 h5 ⊢
 clear hm hk hz
 go_enter Tryz.func64, Tryz.ntmps64
 go_wp2_with fail
 go_ret
 exact ⟨rfl, rfl⟩
theorem nan_any (w : World) : Calls Tryz.prog 103 #[] w fun x w' => x = .returned (.float .f64 9221120237041090561) ∧ w' = w := by
 have h5 : ∀ W, (callFunc 29 #[.int .u64 9221120237041090561]).run Tryz.prog W = .ok (.value (.float .f64 9221120237041090561)) W := fun W => run_frombits 9221120237041090561 W
 go_enter Tryz.func103, Tryz.ntmps103
 go_wp2_with fail
 go_ret
 exact ⟨rfl, rfl⟩
theorem inf_any (k : Int) (w : World) (hk : 0 ≤ k) : Calls Tryz.prog 62 #[.int .i64 k] w fun x w' => x = .returned (.float .f64 9218868437227405312) ∧ w' = w := by
 have h5 : ∀ W, (callFunc 29 #[.int .u64 9218868437227405312]).run Tryz.prog W = .ok (.value (.float .f64 9218868437227405312)) W := fun W => run_frombits 9218868437227405312 W
 go_enter Tryz.func62, Tryz.ntmps62
 go_wp2_with fail
 go_ret
 exact ⟨rfl, rfl⟩
theorem inf_rung : Ieee.double.infRung = 9218868437227405312 := by decide
theorem sign_weight : Ieee.double.signWeight = 9223372036854775808 := by decide
theorem binade_is : Ieee.double.binade = 4503599627370496 := by decide
theorem read_num (r : Nat) (h : r < 9218868437227405312) : Ieee.double.read r = .number false (Fl.rmag Ieee.double r) (Fl.rplace Ieee.double r) := by
 have h2 := Fl.read_rung Ieee.double false (r := r) (by rw [inf_rung]; exact h)
 exact h2
theorem read_inf : Ieee.double.read 9218868437227405312 = .infinity false := by decide
theorem read_nan (r : Nat) (h : 9218868437227405312 < r) (h2 : r < 9223372036854775808) : ∃ t, Ieee.double.read r = .nan false t := by
 refine ⟨r - 9218868437227405312, ?_⟩
 unfold Ieee.Format.read
 simp only [inf_rung, sign_weight, binade_is, Nat.mod_eq_of_lt h2, Nat.div_eq_of_lt h2]
 rw [if_neg (by omega), if_neg (by omega), if_neg (by omega)]
 rfl
theorem order_max (r : Nat) (hr : r < 9223372036854775808) : (FloatKind.f64.format.order r 9218868437227405311 == some Ordering.gt) = (r == 9218868437227405312) := by
 show (Ieee.Datum.order (Ieee.double.read r) (Ieee.double.read 9218868437227405311) == some Ordering.gt) = _
 rw [read_num 9218868437227405311 (by decide)]
 rcases Nat.lt_trichotomy r 9218868437227405312 with h | h | h
 · rw [read_num r h, Fl.order_rungs]
   have e : (r == 9218868437227405312) = false := by rw [beq_eq_false_iff_ne]; omega
   have hle : Fl.sval Ieee.double false r ≤ Fl.sval Ieee.double false 9218868437227405311 := by
    show (Fl.val Ieee.double r : Int) ≤ (Fl.val Ieee.double 9218868437227405311 : Int)
    by_cases h2 : r = 9218868437227405311
    · rw [h2]; exact Int.le_refl _
    · have := Fl.val_lt (f := Ieee.double) (r := r) (s := 9218868437227405311) (by omega)
      omega
   rw [e, beq_eq_false_iff_ne]
   intro hh
   have := Int.compare_eq_gt.1 (Option.some.inj hh)
   omega
 · subst h
   rw [read_inf]
   rfl
 · obtain ⟨t, ht⟩ := read_nan r h hr
   rw [ht]
   have e : (r == 9218868437227405312) = false := by rw [beq_eq_false_iff_ne]; omega
   rw [e]
   rfl
theorem isinf_any (b : Nat) (w : World) (hb : b < 18446744073709551616) : Calls Tryz.prog 56 #[.float .f64 b, .int .i64 0] w fun x w' => x = .returned (.bool (b % 9223372036854775808 == 9218868437227405312)) ∧ w' = w := by
 have AB := Lib.hid (fun W => abs_any b W hb)
 go_enter Tryz.func56, Tryz.ntmps56
 go_wp2_with fail
 refine (AB.out _).mono ?_
 rintro x w1 ⟨rfl, rfl⟩
 have hO := order_max (b % 9223372036854775808) (Nat.mod_lt _ (by decide))
 go_wp2_with fail
 go_ret
 exact ⟨rfl, rfl⟩
theorem order_num {r s : Nat} (hr : r < 9218868437227405312) (hs : s < 9218868437227405312) : FloatKind.f64.format.order r s = some (compare (Fl.val Ieee.double r : Int) (Fl.val Ieee.double s : Int)) := by
 show Ieee.Datum.order (Ieee.double.read r) (Ieee.double.read s) = _
 rw [read_num r hr, read_num s hs, Fl.order_rungs]
 rfl
theorem val_le {r s : Nat} (h : r ≤ s) : Fl.val Ieee.double r ≤ Fl.val Ieee.double s := by
 rcases Nat.eq_or_lt_of_le h with h | h
 · rw [h]; exact Nat.le_refl _
 · exact Nat.le_of_lt (Fl.val_lt h)
theorem ord_eq {r s : Nat} (hr : r < 9218868437227405312) (hs : s < 9218868437227405312) : (FloatKind.f64.format.order r s == some Ordering.eq) = decide (r = s) := by
 rw [order_num hr hs]
 by_cases h : r = s
 · subst h
   rw [decide_eq_true rfl, Int.compare_eq_eq.2 rfl]
   rfl
 · rw [decide_eq_false h, beq_eq_false_iff_ne]
   intro hh
   have h1 := Int.compare_eq_eq.1 (Option.some.inj hh)
   rcases Nat.lt_or_gt_of_ne h with h2 | h2
   · have := Fl.val_lt (f := Ieee.double) h2; omega
   · have := Fl.val_lt (f := Ieee.double) h2; omega
theorem ord_lt {r s : Nat} (hr : r < 9218868437227405312) (hs : s < 9218868437227405312) : (FloatKind.f64.format.order r s == some Ordering.lt) = decide (r < s) := by
 rw [order_num hr hs]
 by_cases h : r < s
 · have := Fl.val_lt (f := Ieee.double) h
   rw [decide_eq_true h, Int.compare_eq_lt.2 (by omega)]
   rfl
 · rw [decide_eq_false h, beq_eq_false_iff_ne]
   intro hh
   have h1 := Int.compare_eq_lt.1 (Option.some.inj hh)
   have := val_le (r := s) (s := r) (by omega)
   omega
theorem isnan_num (r : Nat) (w : World) (hr : r < 9218868437227405312) : Calls Tryz.prog 30 #[.float .f64 r] w fun x w' => x = .returned (.bool false) ∧ w' = w := by
 have h0 := ord_eq hr hr
 rw [decide_eq_true rfl] at h0
 have h1 : (FloatKind.f64.format.order r r != some Ordering.eq) = false := by rw [bne, h0]; rfl
 clear h0
 go_enter Tryz.func30, Tryz.ntmps30
 go_wp2_with fail
 go_ret
 exact ⟨rfl, rfl⟩
theorem normalize_num (r : Nat) (w : World) (hr : r < 9218868437227405312) (h52 : 4503599627370496 ≤ r) : Calls Tryz.prog 145 #[.float .f64 r] w fun x w' => x = .returned (.tuple #[.float .f64 r, .int .i64 0]) ∧ w' = w := by
 have AB := Lib.hid (fun W => abs_any r W (by omega))
 have h1 := ord_lt hr (s := 4503599627370496) (by omega)
 rw [decide_eq_false (by omega)] at h1
 have h2 : r % 9223372036854775808 = r := Nat.mod_eq_of_lt (by omega)
 rw [h2] at AB
 go_enter Tryz.func145, Tryz.ntmps145
 go_wp2_with fail
 refine (AB.out _).mono ?_
 rintro x w1 ⟨rfl, rfl⟩
 go_wp2_with fail
 go_ret2
 exact ⟨rfl, rfl⟩
theorem wordN_bounds {m : Nat} (h0 : 0 < m) (hm : m < 9007199254740992) : 4607182418800017408 ≤ Fl.wordN m ∧ Fl.wordN m < 4845873199050653696 := by
 obtain ⟨hl, hF, _⟩ := Fl.frac_is h0 hm
 unfold Fl.wordN
 omega
theorem and_2047 (K : Nat) (h : K < 2048) : bits .and .i64 (K : Int) 2047 = (K : Int) := by
 have e : K &&& 2047 = K := by
  have := Nat.and_two_pow_sub_one_eq_mod K 11
  rw [show (2047 : Nat) = 2 ^ 11 - 1 from rfl, this]
  exact Nat.mod_eq_of_lt h
 have hb : ∀ n : Nat, n < 2048 → (BitVec.ofInt 64 (n : Int)).toNat = n := fun n hn => by
  rw [BitVec.ofInt_natCast, BitVec.toNat_ofNat]; exact Nat.mod_eq_of_lt (by omega)
 have e2 : (BitVec.ofInt 64 (K : Int) &&& BitVec.ofInt 64 2047).toNat = K := by
  rw [BitVec.toNat_and, hb K h, show (BitVec.ofInt 64 2047).toNat = 2047 from hb 2047 (by decide), e]
 show IntKind.i64.wrap (((BitVec.ofInt 64 (K : Int) &&& BitVec.ofInt 64 2047).toNat : Nat) : Int) = _
 rw [e2]
 exact IntWalk.i64_in _ (by omega)
theorem andNot_exp (r : Nat) (h : r < 9223372036854775808) : bits .andNot .u64 (r : Int) 9218868437227405312 = ((r % 4503599627370496 : Nat) : Int) := by
 have h1 := u64_andNot_nat r 9218868437227405312 (by omega) (by decide)
 have e : r &&& (18446744073709551615 - 9218868437227405312) = r % 4503599627370496 := by
  have a1 : (18446744073709551615 - 9218868437227405312 : Nat) = 9223372036854775808 ||| 4503599627370495 := by decide
  have a2 : r &&& 4503599627370495 = r % 4503599627370496 := Nat.and_two_pow_sub_one_eq_mod r 52
  have a3 : r &&& 9223372036854775808 = 0 := by
   rw [nat_hi64_63, Nat.mod_eq_of_lt (by omega), Nat.div_eq_of_lt h]
  rw [a1, Nat.and_or_distrib_left, a2, a3, Nat.zero_or]
 rw [e] at h1
 exact h1
theorem or_exp (F q : Nat) (hF : F < 4503599627370496) (hq : q < 4096) : bits .or .u64 (F : Int) ((q * 4503599627370496 : Nat) : Int) = ((q * 4503599627370496 + F : Nat) : Int) := by
 have h := u64_or_nat F (q * 4503599627370496) (by omega) (by omega)
 have e : F ||| q * 4503599627370496 = q * 4503599627370496 + F := by
  rw [Nat.or_comm, Nat.mul_comm, ← Nat.two_pow_add_eq_or_of_lt (i := 52) hF q]
 rw [e] at h
 exact h
theorem ldexp_in (m : Nat) (e : Int) (R : Nat) (w : World) (h0 : 0 < m) (hm : m < 9007199254740992) (he : -1200 ≤ e ∧ e ≤ 1200) (hR0 : 0 < R) (hR : R < 9218868437227405312) (h : Fl.Same m e (Fl.rmag Ieee.double R) (Fl.rplace Ieee.double R)) :
 Calls Tryz.prog 114 #[.float .f64 (Fl.wordN m), .int .i64 e] w fun x w' => x = .returned (.float .f64 R) ∧ w' = w := by
 obtain ⟨b1, b2⟩ := wordN_bounds h0 hm
 obtain ⟨hl, hF, _⟩ := Fl.frac_is h0 hm
 obtain ⟨r0, hr0⟩ : ∃ r, Fl.wordN m = r := ⟨_, rfl⟩
 have hr0' : r0 = (m.log2 + 1023) * 4503599627370496 + Fl.fracN m := by rw [← hr0]; rfl
 rw [hr0] at b1 b2 ⊢
 obtain ⟨k, hk⟩ : ∃ k, m.log2 = k := ⟨_, rfl⟩
 obtain ⟨F, hFF⟩ : ∃ F, Fl.fracN m = F := ⟨_, rfl⟩
 have hE := Fl.same_place h0 hR0 h
 have hB := Fl.rung_bounds hR0 hR
 rw [hE, hk] at hB
 rw [hk, hFF] at hr0'
 rw [hk] at hl
 rw [hFF] at hF
 have hpos : (FloatKind.f64.format.order r0 0 == some Ordering.eq) = false := by rw [ord_eq (by omega) (by omega)]; exact decide_eq_false (by omega)
 have II := Lib.hid (fun W => isinf_any r0 W (by omega))
 have e1 : r0 % 9223372036854775808 = r0 := Nat.mod_eq_of_lt (by omega)
 have e2 : (r0 == 9218868437227405312) = false := by rw [beq_eq_false_iff_ne]; omega
 rw [e1, e2] at II
 have NA := Lib.hid (fun W => isnan_num r0 W (by omega))
 have NO := Lib.hid (fun W => normalize_num r0 W (by omega) (by omega))
 have hbits := fun W => run_bits r0 W
 have hw0 : IntKind.i64.wrap e = e := IntWalk.i64_in _ (by omega)
 obtain ⟨K, hK⟩ : ∃ K, k + 1023 = K := ⟨_, rfl⟩
 have f1 : (r0 : Int) / 4503599627370496 = (K : Int) := by omega
 have f2 : IntKind.i64.wrap (K : Int) = (K : Int) := IntWalk.i64_in _ (by omega)
 have f3 := and_2047 K (by omega)
 have f4 : IntKind.i64.wrap ((K : Int) - 1023) = (k : Int) := by rw [← hK]; have := IntWalk.i64_in (((k + 1023 : Nat) : Int) - 1023) (by omega); rw [this]; omega
 obtain ⟨E, hEE⟩ : ∃ E : Int, e + (k : Int) = E := ⟨_, rfl⟩
 have f5 : IntKind.i64.wrap (e + (k : Int)) = E := by rw [hEE]; exact IntWalk.i64_in _ (by omega)
 have hB' : -1074 ≤ E ∧ E ≤ 1023 ∧ (E < -1022 → R < 4503599627370496) := by rw [← hEE, Int.add_comm]; exact hB
 have f6 : bits .andNot .u64 (r0 : Int) 9218868437227405312 = (F : Int) := by
  rw [andNot_exp r0 (by omega), show r0 % 4503599627370496 = F by omega]
 have c1 : decide (E < -1075) = false := decide_eq_false (by omega)
 have c2 : decide (1023 < E) = false := decide_eq_false (by omega)
 have HKE := Lib.hid (And.intro hK hEE)
 have HH := Lib.hid h
 have HB := Lib.hid hB'
 have HQ := Lib.hid (And.intro hr0' (And.intro hF hl))
 have HK := Lib.hid (And.intro hk hFF)
 have HM := Lib.hid (And.intro h0 (And.intro hm (And.intro hR0 hR)))
 have HE := Lib.hid he
 have HBB := Lib.hid (And.intro b1 b2)
 clear h hE e1 e2 hK hEE hB' hr0 hr0' hF hl hk hFF hB h0 hm hR0 hR he b1 b2
 go_enter Tryz.func114, Tryz.ntmps114
 go_wp2_with fail
 refine (II.out _).mono ?_
 rintro x w1 ⟨rfl, rfl⟩
 go_wp2_with fail
 refine (NA.out _).mono ?_
 rintro x w2 ⟨rfl, rfl⟩
 go_wp2_with fail
 refine (NO.out _).mono ?_
 rintro x w3 ⟨rfl, rfl⟩
 have hBB := HB.out
 by_cases hlow : E < -1022
 · obtain ⟨q, hq⟩ : ∃ q : Nat, E + 1076 = (q : Int) := ⟨(E + 1076).toNat, by omega⟩
   have f6' : IntKind.i64.wrap (E + 53) = E + 53 := IntWalk.i64_in _ (by omega)
   have f7 : IntKind.i64.wrap (E + 53 + 1023) = (q : Int) := by rw [show E + 53 + 1023 = (q : Int) by omega]; exact IntWalk.i64_in _ (by omega)
   have hY : Ieee.double.mul 4368491638549381120 (q * 4503599627370496 + Fl.fracN m) = some R := Fl.mul_small HM.out.1 HM.out.2.1 HM.out.2.2.1 (hBB.2.2 hlow) HH.out (by rw [HK.out.1]; have := HKE.out.2; omega) (by rw [HK.out.1]; have := HKE.out.2; omega)
   rw [HK.out.2] at hY
   have hqb : q < 4096 := by omega
   have f8 : IntKind.u64.wrap (q : Int) = (q : Int) := by rw [IntKind.wrap_u64]; omega
   have f10 := or_exp F q HQ.out.2.1 hqb
   obtain ⟨Q, hQ⟩ : ∃ Q, q * 4503599627370496 = Q := ⟨_, rfl⟩
   have f9 : IntKind.u64.wrap ((q : Int) * 4503599627370496) = (Q : Int) := by rw [IntKind.wrap_u64]; omega
   rw [hQ] at f10 hY
   obtain ⟨Y, hYY⟩ : ∃ Y, Q + F = Y := ⟨_, rfl⟩
   rw [hYY] at f10 hY
   have f11 := fun W => run_frombits Y W
   have f12 := fun W => run_float_arith (P := Tryz.prog) W .mul 57 .f64 4368491638549381120 Y R hY
   have c3 : decide (E < -1022) = true := decide_eq_true hlow
   clear hq hlow hQ hYY hY hqb hBB
   go_wp2_with fail
   go_ret
   exact ⟨rfl, rfl⟩
 · obtain ⟨q, hq⟩ : ∃ q : Nat, E + 1023 = (q : Int) := ⟨(E + 1023).toNat, by omega⟩
   have f7 : IntKind.i64.wrap (E + 1023) = (q : Int) := by rw [hq]; exact IntWalk.i64_in _ (by omega)
   have hR' : R = q * 4503599627370496 + Fl.fracN m := Fl.same_normal HM.out.1 HM.out.2.1 HM.out.2.2.1 HM.out.2.2.2 HH.out (by rw [HK.out.1]; have := HKE.out.2; omega) (by omega)
   have hY : Ieee.double.mul 4607182418800017408 (q * 4503599627370496 + Fl.fracN m) = some R := by rw [← hR']; exact Fl.mul_one HM.out.2.2.1 HM.out.2.2.2
   rw [HK.out.2] at hY
   clear hR'
   have hqb : q < 4096 := by omega
   have f8 : IntKind.u64.wrap (q : Int) = (q : Int) := by rw [IntKind.wrap_u64]; omega
   have f10 := or_exp F q HQ.out.2.1 hqb
   obtain ⟨Q, hQ⟩ : ∃ Q, q * 4503599627370496 = Q := ⟨_, rfl⟩
   have f9 : IntKind.u64.wrap ((q : Int) * 4503599627370496) = (Q : Int) := by rw [IntKind.wrap_u64]; omega
   rw [hQ] at f10 hY
   obtain ⟨Y, hYY⟩ : ∃ Y, Q + F = Y := ⟨_, rfl⟩
   rw [hYY] at f10 hY
   have f11 := fun W => run_frombits Y W
   have f12 := fun W => run_float_arith (P := Tryz.prog) W .mul 57 .f64 4607182418800017408 Y R hY
   have c3 : decide (E < -1022) = false := decide_eq_false hlow
   clear hq hlow hQ hYY hY hqb hBB
   go_wp2_with fail
   go_ret
   exact ⟨rfl, rfl⟩
def formatsL : List Int := [16, 11, -24, 32, 24, -149, 64, 53, -1074]
def Laid (w : World) : Prop := Lib.TabIs Tryz.prog w "internal/strconv.uint64pow10" .u64 Lib.pow10Tab ∧ 18 ≤ w.heap.size ∧
 (∃ ev, w.cell? ⟨4, 0, none⟩ = some ev ∧ (ev = .nilIface ∨ ∃ te pe, ev = .iface te pe)) ∧ (∃ ev, w.cell? ⟨5, 0, none⟩ = some ev ∧ (ev = .nilIface ∨ ∃ te pe, ev = .iface te pe)) ∧
 TabAt 2 Lib.deBruijn64tab w ∧ (∃ m, w.cell? ⟨3, 0, none⟩ = some (.int .i64 m)) ∧ (∀ j v, formatsL[j]? = some v → w.cell? ⟨1, j, none⟩ = some (.int .i64 v))
theorem pow10_at : Tryz.prog.globalNamed "internal/strconv.uint64pow10" = some 6 := by kernel_rfl
theorem Laid.on {w w' : World} (h : Laid w) (hb : Below w.heap.size w w') : Laid w' := by
 obtain ⟨h1, h2, ⟨e1, h3, h4⟩, ⟨e2, h5, h6⟩, h7, ⟨m, h8⟩, h9⟩ := h
 have hs := hb.size
 exact ⟨var?_below hb pow10_at (by omega) h1, by omega, ⟨e1, (hb.cell (by show 4 < _; omega)).trans h3, h4⟩, ⟨e2, (hb.cell (by show 5 < _; omega)).trans h5, h6⟩,
  fun j hj => (hb.cell (by show 2 < _; omega)).trans (h7 j hj), ⟨m, (hb.cell (by show 3 < _; omega)).trans h8⟩, fun j v hv => (hb.cell (by show 1 < _; omega)).trans (h9 j v hv)⟩
theorem itoa_any (n : Int) (h0 : -4611686018427387904 ≤ n) (h1 : n ≤ 4611686018427387904) (w : World) (hL : Laid w) : Calls Tryz.prog 101 #[.int .i64 n] w fun x w' => x = .returned (.string ⟨(Lib.itoa n).toArray⟩) ∧ Below w.heap.size w w' := by
 refine (Tryz.strconv_Itoa n (by omega) (by omega) w hL.1).mono ?_
 rintro e w' ⟨rfl, k, os, rfl⟩
 exact ⟨rfl, below_grow _ w (Nat.le_refl _) k os⟩
theorem bytesWorld_below (w : World) (e : TypeId) (s : ByteArray) : Below w.heap.size w (bytesWorld w e s) :=
 ⟨rfl, rfl, rfl, by rw [bytesWorld_size]; omega, fun j hj => bytesWorld_at_old w e s j hj⟩
theorem atoi_ok (s : ByteArray) (hs : s.size ≤ 1073741824) (v : Int) (h : Lib.atoiAll s.data.toList = .ok v) (w : World) : Calls Tryz.prog 105 #[.string s] w fun x w' => x = .returned (.tuple #[.int .i64 v, .nilIface]) ∧ Below w.heap.size w w' := by
 refine (Tryz.strconv_Atoi_ok s (by omega) v h w).mono ?_
 rintro e w' ⟨rfl, h⟩
 refine ⟨rfl, ?_⟩
 rcases h with rfl | ⟨t, rfl⟩
 · exact Below.refl _ _
 · exact bytesWorld_below w 5 t
theorem atoi_bad (s : ByteArray) (hs : s.size ≤ 1073741824) (h : ∀ v, Lib.atoiAll s.data.toList ≠ .ok v) (w : World) (hL : Laid w) : Calls Tryz.prog 105 #[.string s] w fun x w' => ∃ (v : Int) (N : Nat), x = .returned (.tuple #[.int .i64 v, .iface 174 (.pointer (some ⟨N, 0, none⟩))]) ∧ Below w.heap.size w w' := by
 obtain ⟨_, _, ⟨e1, h3, h4⟩, ⟨e2, h5, h6⟩, _⟩ := hL
 cases ha : Lib.atoiAll s.data.toList with
 | ok v => exact absurd ha (h v)
 | range =>
   refine (Tryz.strconv_Atoi_range s (by omega) ha e2 w h5 h6).mono ?_
   rintro e w' ⟨N, rfl, _, _, hb⟩
   exact ⟨_, N, rfl, hb⟩
 | _ =>
   refine (Tryz.strconv_Atoi_bad s (by omega) (fun v hv => by rw [ha] at hv; cases hv) (fun hv => by rw [ha] at hv; cases hv) e1 w h3 h4).mono ?_
   rintro e w' ⟨N, rfl, _, _, hb⟩
   exact ⟨_, N, rfl, hb⟩
theorem uint_ok (s : ByteArray) (hs : s.size ≤ 1073741824) (u : Nat) (h : Lib.parseUintB 64 s.data.toList = .ok u) (w : World) : Calls Tryz.prog 104 #[.string s, .int .i64 10, .int .i64 64] w fun x w' => x = .returned (.tuple #[.int .u64 (u : Int), .nilIface]) ∧ Below w.heap.size w w' := by
 refine (Tryz.strconv_ParseUint_ok s (by omega) u h w).mono ?_
 rintro e w' ⟨rfl, h⟩
 refine ⟨rfl, ?_⟩
 rcases h with rfl | rfl
 · exact Below.refl _ _
 · exact bytesWorld_below w 5 s
theorem str_append (a b : List UInt8) : (⟨a.toArray⟩ ++ ⟨b.toArray⟩ : ByteArray) = ⟨(a ++ b).toArray⟩ := by
 apply ByteArray.ext
 simp
theorem str_size (a : List UInt8) : (⟨a.toArray⟩ : ByteArray).size = a.length := by show a.toArray.size = _; simp
theorem ldexp_any (m : Nat) (e : Int) (R : Nat) (w : World) (h0 : 0 < m) (hm : m < 9007199254740992) (he : -1200 ≤ e ∧ e ≤ 1200) (hR0 : 0 < R) (hR : R < 9218868437227405312) (h : Fl.Same m e (Fl.rmag Ieee.double R) (Fl.rplace Ieee.double R)) :
 Calls Tryz.prog 63 #[.float .f64 (Fl.wordN m), .int .i64 e] w fun x w' => x = .returned (.float .f64 R) ∧ w' = w := by
 have LD := Lib.hid (fun W => ldexp_in m e R W h0 hm he hR0 hR h)
 obtain ⟨r0, hr0⟩ : ∃ r, Fl.wordN m = r := ⟨_, rfl⟩
 rw [hr0] at LD ⊢
 clear h0 hm he hR0 hR h hr0
 go_enter Tryz.func63, Tryz.ntmps63
 go_wp2_with fail
 refine (LD.out _).mono ?_
 rintro x w1 ⟨rfl, rfl⟩
 go_wp2_with fail
 go_ret
 exact ⟨rfl, rfl⟩
theorem ldexp_zero (e : Int) (w : World) : Calls Tryz.prog 63 #[.float .f64 0, .int .i64 e] w fun x w' => x = .returned (.float .f64 0) ∧ w' = w := by
 have hz : (FloatKind.f64.format.order 0 0 == some Ordering.eq) = true := by rw [ord_eq (by omega) (by omega)]; rfl
 have LD : ∀ W, Calls Tryz.prog 114 #[.float .f64 0, .int .i64 e] W fun x w' => x = .returned (.float .f64 0) ∧ w' = W := by
  intro W
  go_enter Tryz.func114, Tryz.ntmps114
  go_wp2_with fail
  go_ret
  exact ⟨rfl, rfl⟩
 have LD := Lib.hid LD
 go_enter Tryz.func63, Tryz.ntmps63
 go_wp2_with fail
 refine (LD.out _).mono ?_
 rintro x w1 ⟨rfl, rfl⟩
 go_wp2_with fail
 go_ret
 exact ⟨rfl, rfl⟩
theorem and_frac (r : Nat) (h : r < 18446744073709551616) : bits .and .u64 (r : Int) 4503599627370495 = ((r % 4503599627370496 : Nat) : Int) := by
 have h1 := u64_and_nat r 4503599627370495 h (by decide)
 have e : r &&& 4503599627370495 = r % 4503599627370496 := Nat.and_two_pow_sub_one_eq_mod r 52
 rw [e] at h1
 exact h1
theorem or_one (F : Nat) (hF : F < 4503599627370496) : bits .or .u64 (F : Int) 4503599627370496 = ((4503599627370496 + F : Nat) : Int) := by
 have h := or_exp F 1 hF (by decide)
 rw [Nat.one_mul] at h
 exact h
def tzN (m : Nat) : Nat := Lib.ctz 64 m
theorem tz_spec {m : Nat} (h0 : 0 < m) (h : m < 18446744073709551616) : ∃ k, m = 2 ^ tzN m * (2 * k + 1) ∧ tzN m < 64 := by
 unfold tzN Lib.ctz
 rw [if_neg (by omega)]
 exact Lib.ctzFrom_spec 64 m h0 h
theorem split_any (b : Nat) (w : World) (hb : b < 18446744073709551616) (h0 : 0 < b % 9223372036854775808) (hr : b % 9223372036854775808 < 9218868437227405312) (hL : Laid w) :
 Calls Tryz.prog 66 #[.float .f64 b] w fun x w' => x = .returned (.tuple #[.int .u64 ((Fl.rmag Ieee.double (b % 9223372036854775808) / 2 ^ tzN (Fl.rmag Ieee.double (b % 9223372036854775808)) : Nat) : Int), .int .i64 (Fl.rplace Ieee.double (b % 9223372036854775808) + (tzN (Fl.rmag Ieee.double (b % 9223372036854775808)) : Nat))]) ∧ w' = w := by
 have AB := Lib.hid (fun W => abs_any b W hb)
 obtain ⟨r, hrr⟩ : ∃ r, b % 9223372036854775808 = r := ⟨_, rfl⟩
 rw [hrr] at AB h0 hr ⊢
 have f0 := fun W => run_bits r W
 have f1 := and_frac r (by omega)
 obtain ⟨q, hq⟩ : ∃ q, r / 4503599627370496 = q := ⟨_, rfl⟩
 obtain ⟨F, hF⟩ : ∃ F, r % 4503599627370496 = F := ⟨_, rfl⟩
 have f2 : (r : Int) / 4503599627370496 = (q : Int) := by omega
 have f3 : IntKind.i64.wrap (q : Int) = (q : Int) := IntWalk.i64_in _ (by omega)
 rw [hF] at f1
 obtain ⟨M, hM⟩ : ∃ M, Fl.rmag Ieee.double r = M := ⟨_, rfl⟩
 obtain ⟨p, hp⟩ : ∃ p, Fl.rplace Ieee.double r = p := ⟨_, rfl⟩
 have hM0 : 0 < M := by rw [← hM]; exact Fl.rmag_pos h0
 have hM2 : M < 9007199254740992 := by rw [← hM]; exact Fl.rmag_lt Ieee.double r
 have TZ := Lib.hid (fun W (hW : Laid W) => tz_any M (by omega) W hW.2.2.2.2.1)
 rw [hM, hp]
 obtain ⟨z, hz⟩ : ∃ z, tzN M = z := ⟨_, rfl⟩
 have hz64 : z < 64 := by obtain ⟨_, _, h⟩ := tz_spec hM0 (by omega); rw [← hz]; exact h
 rw [show Lib.ctz 64 M = z from hz] at TZ
 rw [hz]
 have HL := Lib.hid hL
 by_cases hsub : r < 4503599627370496
 · have eM : M = F := by rw [← hM]; unfold Fl.rmag; rw [Fl.d_binade, if_pos hsub]; omega
   have ep : p = -1074 := by rw [← hp]; unfold Fl.rplace; rw [Fl.d_binade, if_pos hsub, Fl.d_least]
   have q0 : ((q : Int) == 0) = true := by rw [beq_iff_eq]; omega
   subst eM ep
   have f4 : IntKind.i64.wrap (-1074 + (z : Int)) = -1074 + (z : Int) := IntWalk.i64_in _ (by omega)
   have hz0 : (0 : Int) ≤ (z : Int) := by omega
   clear hrr hq hF hM hp hM0 hM2 hz hL h0 hr hb hsub
   go_enter Tryz.func66, Tryz.ntmps66
   go_wp2_with fail
   refine (AB.out _).mono ?_
   rintro x w1 ⟨rfl, rfl⟩
   go_wp2_with fail
   refine (TZ.out _ HL.out).mono ?_
   rintro x w2 ⟨rfl, rfl⟩
   go_wp2_with fail
   go_ret2
   exact ⟨by simp, rfl⟩
 · have eM : M = 4503599627370496 + F := by rw [← hM]; unfold Fl.rmag; rw [Fl.d_binade, if_neg hsub, hF]
   have ep : p = (q : Int) - 1075 := by rw [← hp]; unfold Fl.rplace; rw [Fl.d_binade, if_neg hsub, Fl.d_least]; omega
   have q0 : ((q : Int) == 0) = false := by rw [beq_eq_false_iff_ne]; omega
   have f5 := or_one F (by omega)
   rw [← eM] at f5
   have f6 : IntKind.i64.wrap ((q : Int) - 1075) = p := by rw [ep]; exact IntWalk.i64_in _ (by omega)
   have f4 : IntKind.i64.wrap (p + (z : Int)) = p + (z : Int) := IntWalk.i64_in _ (by omega)
   have hz0 : (0 : Int) ≤ (z : Int) := by omega
   clear hrr hq hF hM hp hM0 hM2 hz hL h0 hr hb hsub eM ep
   go_enter Tryz.func66, Tryz.ntmps66
   go_wp2_with fail
   refine (AB.out _).mono ?_
   rintro x w1 ⟨rfl, rfl⟩
   go_wp2_with fail
   refine (TZ.out _ HL.out).mono ?_
   rintro x w2 ⟨rfl, rfl⟩
   go_wp2_with fail
   go_ret2
   exact ⟨by simp, rfl⟩
end Go.Proofs.YtjapgpmoojfhnaaGreatDoor
namespace Go.Proofs.YtjapgpmoojfhnaaGreatDoor
open Go.RowKit Go.Lib Go.Sort
theorem formatUint_in (u : Nat) (hu64 : u < 18446744073709551616) (w : World) (hL : Laid w) :
 Calls Tryz.prog 116 #[.int .u64 (u : Int), .int .i64 10] w fun x w' => x = .returned (.string ⟨(Lib.decDigits u).toArray⟩) ∧ Below w.heap.size w w' := by
 have htab := hL.1
 by_cases hu : u < 100
 · have iu : (u : Int) < 100 := by omega
   have hw : IntKind.i64.wrap (u : Int) = (u : Int) := IntWalk.i64_in _ (by omega)
   have SM := Lib.hid (fun W => Tryz.internal_strconv_small u hu W)
   clear hL htab
   go_enter Tryz.func116, Tryz.ntmps116
   go_wp2_with fail
   refine (SM.out _).mono ?_
   rintro e w' ⟨rfl, rfl⟩
   go_wp2_with fail
   go_ret
   exact ⟨rfl, Below.refl _ _⟩
 · have iu : ¬ (u : Int) < 100 := by omega
   have hu1 : 1 ≤ u := by omega
   have hnd20 : Lib.nDigits u ≤ 20 := by have := Lib.numDigits_eq u hu1 hu64; split at this <;> omega
   have hal : Tryz.prog.arrayLen 180 = 24 := by simp [Program.arrayLen, Tryz.underlying180]
   have hsl : ∀ W, (Instr.sliceAt 180 (.pointer (some ⟨w.heap.size, 0, none⟩)) none (some (.int .i64 (Lib.nDigits u : Int))) none).run Tryz.prog W = .ok (.slice (some ⟨w.heap.size, 0, none⟩) (Lib.nDigits u) 24) W := fun W => by
    rw [run_sliceAt_array_h W 180 ⟨w.heap.size, 0, none⟩ (by simp [Program.arrayLen, Program.elem, Tryz.underlying180]) .i64 (Lib.nDigits u : Int) (by omega) (by rw [hal]; omega)]
    go_simp
   have hH0 := Lib.holds_zero0 w 180 (Lib.nDigits u) (by omega)
   have hfmt := Tryz.internal_strconv_formatBase10 w.heap.size 0 24 u (Array.replicate (Lib.nDigits u) 0) (w.alloc (.cells Lib.zeros24 180)) hH0 (by rw [Array.size_replicate]; exact Lib.lt_pow_nDigits u) hu64 (by rw [Array.size_replicate]; omega)
   rw [Array.size_replicate] at hfmt
   have HH0 := Lib.hid hH0
   have HFM := Lib.hid hfmt
   have ND := Lib.hid (fun W (hW : Lib.TabIs Tryz.prog W "internal/strconv.uint64pow10" .u64 Lib.pow10Tab) => Tryz.internal_strconv_numDigits u hu1 hu64 W hW)
   have HT := Lib.hid htab
   clear hH0 hal hL htab hfmt
   go_enter Tryz.func116, Tryz.ntmps116
   go_wp2_with fail
   refine (ND.out _ (Lib.tabIs_alloc HT.out _)).mono ?_
   rintro e w' ⟨rfl, rfl⟩
   go_wp2_with fail
   refine (HFM.out).mono ?_
   rintro e w' ⟨rfl, k, v', dk, rfl, hF⟩
   have hcv : (convert 31 9 (.slice (some ⟨w.heap.size, 0, none⟩) (Lib.nDigits u) 24)).run Tryz.prog ((putRow (fun (b : UInt8) => Value.int .u8 (b.toNat : Int)) (w.alloc (.cells Lib.zeros24 180)) w.heap.size 0 dk).drewN k) = .ok (.string ⟨(Lib.decDigits u).toArray⟩) ((putRow (fun (b : UInt8) => Value.int .u8 (b.toNat : Int)) (w.alloc (.cells Lib.zeros24 180)) w.heap.size 0 dk).drewN k) := by
    have h := run_convert_bytes_back (P := Tryz.prog) ((putRow (fun (b : UInt8) => Value.int .u8 (b.toNat : Int)) (w.alloc (.cells Lib.zeros24 180)) w.heap.size 0 dk).drewN k) 31 9 5 ⟨w.heap.size, 0, none⟩ 24 (Lib.decDigits u) Tryz.underlying31 Tryz.underlying5 Tryz.underlying9 (fun j hj => by
     rw [Lib.row_is_numeral hF j hj, Lib.add_plain, World.cell?_drewN]
     exact cell?_putRow (fun (b : UInt8) => Value.int .u8 (b.toNat : Int)) _ w.heap.size 0 _ dk HH0.out (by rw [hF.size, Array.size_replicate]) j (by rw [hF.size]; rw [Lib.decDigits_length] at hj; exact hj))
    rw [Lib.decDigits_length] at h
    exact h
   obtain ⟨os, eo⟩ := Lib.fin_at w (.cells Lib.zeros24 180) dk k 0
   have hbl : Below w.heap.size w ((putRow (fun (b : UInt8) => Value.int .u8 (b.toNat : Int)) (w.alloc (.cells Lib.zeros24 180)) w.heap.size 0 dk).drewN k) := by rw [eo]; exact below_grow _ w (Nat.le_refl _) k os
   generalize (putRow (fun (b : UInt8) => Value.int .u8 (b.toNat : Int)) (w.alloc (.cells Lib.zeros24 180)) w.heap.size 0 dk).drewN k = W2 at hcv hbl ⊢
   clear eo HH0 HFM
   go_wp2_with fail
   go_ret
   exact ⟨rfl, hbl⟩
theorem formatUint_any (u : Nat) (hu64 : u < 18446744073709551616) (w : World) (hL : Laid w) :
 Calls Tryz.prog 72 #[.int .u64 (u : Int), .int .i64 10] w fun x w' => x = .returned (.string ⟨(Lib.decDigits u).toArray⟩) ∧ Below w.heap.size w w' := by
 have FI := Lib.hid (formatUint_in u hu64 w hL)
 clear hL
 go_enter Tryz.func72, Tryz.ntmps72
 go_wp2_with fail
 refine (FI.out).mono ?_
 rintro e w' ⟨rfl, hb⟩
 go_wp2_with fail
 go_ret
 exact ⟨rfl, hb⟩
end Go.Proofs.YtjapgpmoojfhnaaGreatDoor
