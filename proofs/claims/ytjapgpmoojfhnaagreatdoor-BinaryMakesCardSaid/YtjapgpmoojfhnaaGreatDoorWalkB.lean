/- math.Ldexp, where the result is exact. -/
import Derived.Test.YtjapgpmoojfhnaaGreatDoorWalkA
import Derived.Test.YtjapgpmoojfhnaaGreatDoorPlainA
namespace Go.Proofs.YtjapgpmoojfhnaaGreatDoor
open Go.RowKit Go.Lib

theorem order_num {r s : Nat} (hr : r < 9218868437227405312) (hs : s < 9218868437227405312) : FloatKind.f64.format.order r s = some (compare (Fl.val Ieee.double r : Int) (Fl.val Ieee.double s : Int)) := by
  show Ieee.Datum.order (Ieee.double.read r) (Ieee.double.read s) = _
  rw [read_num r hr, read_num s hs, Fl.order_rungs]
  rfl
theorem val_le {r s : Nat} (h : r ≤ s) : Fl.val Ieee.double r ≤ Fl.val Ieee.double s := by
  rcases Nat.eq_or_lt_of_le h with h | h
  · rw [h]; exact Nat.le_refl _
  · exact Nat.le_of_lt (Fl.val_lt h)
theorem ord_eq {r s : Nat} (hr : r < 9218868437227405312) (hs : s < 9218868437227405312) : (FloatKind.f64.format.order r s == some Ordering.eq) = decide (r = s) := by
  rw [order_num hr hs]
  by_cases h : r = s
  · subst h
    rw [decide_eq_true rfl, Int.compare_eq_eq.2 rfl]
    rfl
  · rw [decide_eq_false h, beq_eq_false_iff_ne]
    intro hh
    have h1 := Int.compare_eq_eq.1 (Option.some.inj hh)
    rcases Nat.lt_or_gt_of_ne h with h2 | h2
    · have := Fl.val_lt (f := Ieee.double) h2; omega
    · have := Fl.val_lt (f := Ieee.double) h2; omega
theorem ord_lt {r s : Nat} (hr : r < 9218868437227405312) (hs : s < 9218868437227405312) : (FloatKind.f64.format.order r s == some Ordering.lt) = decide (r < s) := by
  rw [order_num hr hs]
  by_cases h : r < s
  · have := Fl.val_lt (f := Ieee.double) h
    rw [decide_eq_true h, Int.compare_eq_lt.2 (by omega)]
    rfl
  · rw [decide_eq_false h, beq_eq_false_iff_ne]
    intro hh
    have h1 := Int.compare_eq_lt.1 (Option.some.inj hh)
    have := val_le (r := s) (s := r) (by omega)
    omega
set_option maxRecDepth 100000 in
theorem isnan_num (r : Nat) (w : World) (hr : r < 9218868437227405312) : Calls Tryz.prog 30 #[.float .f64 r] w fun x w' => x = .returned (.bool false) ∧ w' = w := by
  have h0 := ord_eq hr hr
  rw [decide_eq_true rfl] at h0
  have h1 : (FloatKind.f64.format.order r r != some Ordering.eq) = false := by rw [bne, h0]; rfl
  clear h0
  go_enter Tryz.func30, Tryz.ntmps30
  go_wp2_with fail
  go_ret
  exact ⟨rfl, rfl⟩
set_option maxRecDepth 100000 in
theorem normalize_num (r : Nat) (w : World) (hr : r < 9218868437227405312) (h52 : 4503599627370496 ≤ r) : Calls Tryz.prog 145 #[.float .f64 r] w fun x w' => x = .returned (.tuple #[.float .f64 r, .int .i64 0]) ∧ w' = w := by
  have AB := Lib.hid (fun W => abs_any r W (by omega))
  have h1 := ord_lt hr (s := 4503599627370496) (by omega)
  rw [decide_eq_false (by omega)] at h1
  have h2 : r % 9223372036854775808 = r := Nat.mod_eq_of_lt (by omega)
  rw [h2] at AB
  go_enter Tryz.func145, Tryz.ntmps145
  go_wp2_with fail
  refine (AB.out _).mono ?_
  rintro x w1 ⟨rfl, rfl⟩
  go_wp2_with fail
  go_ret2
  exact ⟨rfl, rfl⟩
theorem wordN_bounds {m : Nat} (h0 : 0 < m) (hm : m < 9007199254740992) : 4607182418800017408 ≤ Fl.wordN m ∧ Fl.wordN m < 4845873199050653696 := by
  obtain ⟨hl, hF, _⟩ := Fl.frac_is h0 hm
  unfold Fl.wordN
  omega
theorem and_2047 (K : Nat) (h : K < 2048) : bits .and .i64 (K : Int) 2047 = (K : Int) := by
  have e : K &&& 2047 = K := by
    have := Nat.and_two_pow_sub_one_eq_mod K 11
    rw [show (2047 : Nat) = 2 ^ 11 - 1 from rfl, this]
    exact Nat.mod_eq_of_lt h
  have hb : ∀ n : Nat, n < 2048 → (BitVec.ofInt 64 (n : Int)).toNat = n := fun n hn => by
    rw [BitVec.ofInt_natCast, BitVec.toNat_ofNat]; exact Nat.mod_eq_of_lt (by omega)
  have e2 : (BitVec.ofInt 64 (K : Int) &&& BitVec.ofInt 64 2047).toNat = K := by
    rw [BitVec.toNat_and, hb K h, show (BitVec.ofInt 64 2047).toNat = 2047 from hb 2047 (by decide), e]
  show IntKind.i64.wrap (((BitVec.ofInt 64 (K : Int) &&& BitVec.ofInt 64 2047).toNat : Nat) : Int) = _
  rw [e2]
  exact IntWalk.i64_in _ (by omega)
theorem andNot_exp (r : Nat) (h : r < 9223372036854775808) : bits .andNot .u64 (r : Int) 9218868437227405312 = ((r % 4503599627370496 : Nat) : Int) := by
  have h1 := u64_andNot_nat r 9218868437227405312 (by omega) (by decide)
  have e : r &&& (18446744073709551615 - 9218868437227405312) = r % 4503599627370496 := by
    have a1 : (18446744073709551615 - 9218868437227405312 : Nat) = 9223372036854775808 ||| 4503599627370495 := by decide
    have a2 : r &&& 4503599627370495 = r % 4503599627370496 := Nat.and_two_pow_sub_one_eq_mod r 52
    have a3 : r &&& 9223372036854775808 = 0 := by
      rw [nat_hi64_63, Nat.mod_eq_of_lt (by omega), Nat.div_eq_of_lt h]
    rw [a1, Nat.and_or_distrib_left, a2, a3, Nat.zero_or]
  rw [e] at h1
  exact h1
theorem or_exp (F q : Nat) (hF : F < 4503599627370496) (hq : q < 4096) : bits .or .u64 (F : Int) ((q * 4503599627370496 : Nat) : Int) = ((q * 4503599627370496 + F : Nat) : Int) := by
  have h := u64_or_nat F (q * 4503599627370496) (by omega) (by omega)
  have e : F ||| q * 4503599627370496 = q * 4503599627370496 + F := by
    rw [Nat.or_comm, Nat.mul_comm, ← Nat.two_pow_add_eq_or_of_lt (i := 52) hF q]
  rw [e] at h
  exact h
set_option maxHeartbeats 1000000 in
set_option maxRecDepth 100000 in
theorem ldexp_in (m : Nat) (e : Int) (R : Nat) (w : World) (h0 : 0 < m) (hm : m < 9007199254740992) (he : -1200 ≤ e ∧ e ≤ 1200) (hR0 : 0 < R) (hR : R < 9218868437227405312) (h : Fl.Same m e (Fl.rmag Ieee.double R) (Fl.rplace Ieee.double R)) :
    Calls Tryz.prog 114 #[.float .f64 (Fl.wordN m), .int .i64 e] w fun x w' => x = .returned (.float .f64 R) ∧ w' = w := by
  obtain ⟨b1, b2⟩ := wordN_bounds h0 hm
  obtain ⟨hl, hF, _⟩ := Fl.frac_is h0 hm
  obtain ⟨r0, hr0⟩ : ∃ r, Fl.wordN m = r := ⟨_, rfl⟩
  have hr0' : r0 = (m.log2 + 1023) * 4503599627370496 + Fl.fracN m := by rw [← hr0]; rfl
  rw [hr0] at b1 b2 ⊢
  obtain ⟨k, hk⟩ : ∃ k, m.log2 = k := ⟨_, rfl⟩
  obtain ⟨F, hFF⟩ : ∃ F, Fl.fracN m = F := ⟨_, rfl⟩
  have hE := Fl.same_place h0 hR0 h
  have hB := Fl.rung_bounds hR0 hR
  rw [hE, hk] at hB
  rw [hk, hFF] at hr0'
  rw [hk] at hl
  rw [hFF] at hF
  have hpos : (FloatKind.f64.format.order r0 0 == some Ordering.eq) = false := by rw [ord_eq (by omega) (by omega)]; exact decide_eq_false (by omega)
  have II := Lib.hid (fun W => isinf_any r0 W (by omega))
  have e1 : r0 % 9223372036854775808 = r0 := Nat.mod_eq_of_lt (by omega)
  have e2 : (r0 == 9218868437227405312) = false := by rw [beq_eq_false_iff_ne]; omega
  rw [e1, e2] at II
  have NA := Lib.hid (fun W => isnan_num r0 W (by omega))
  have NO := Lib.hid (fun W => normalize_num r0 W (by omega) (by omega))
  have hbits := fun W => run_bits r0 W
  have hw0 : IntKind.i64.wrap e = e := IntWalk.i64_in _ (by omega)
  obtain ⟨K, hK⟩ : ∃ K, k + 1023 = K := ⟨_, rfl⟩
  have f1 : (r0 : Int) / 4503599627370496 = (K : Int) := by omega
  have f2 : IntKind.i64.wrap (K : Int) = (K : Int) := IntWalk.i64_in _ (by omega)
  have f3 := and_2047 K (by omega)
  have f4 : IntKind.i64.wrap ((K : Int) - 1023) = (k : Int) := by rw [← hK]; have := IntWalk.i64_in (((k + 1023 : Nat) : Int) - 1023) (by omega); rw [this]; omega
  obtain ⟨E, hEE⟩ : ∃ E : Int, e + (k : Int) = E := ⟨_, rfl⟩
  have f5 : IntKind.i64.wrap (e + (k : Int)) = E := by rw [hEE]; exact IntWalk.i64_in _ (by omega)
  have hB' : -1074 ≤ E ∧ E ≤ 1023 ∧ (E < -1022 → R < 4503599627370496) := by rw [← hEE, Int.add_comm]; exact hB
  have f6 : bits .andNot .u64 (r0 : Int) 9218868437227405312 = (F : Int) := by
    rw [andNot_exp r0 (by omega), show r0 % 4503599627370496 = F by omega]
  have c1 : decide (E < -1075) = false := decide_eq_false (by omega)
  have c2 : decide (1023 < E) = false := decide_eq_false (by omega)
  have HKE := Lib.hid (And.intro hK hEE)
  have HH := Lib.hid h
  have HB := Lib.hid hB'
  have HQ := Lib.hid (And.intro hr0' (And.intro hF hl))
  have HK := Lib.hid (And.intro hk hFF)
  have HM := Lib.hid (And.intro h0 (And.intro hm (And.intro hR0 hR)))
  have HE := Lib.hid he
  have HBB := Lib.hid (And.intro b1 b2)
  clear h hE e1 e2 hK hEE hB' hr0 hr0' hF hl hk hFF hB h0 hm hR0 hR he b1 b2
  go_enter Tryz.func114, Tryz.ntmps114
  go_wp2_with fail
  refine (II.out _).mono ?_
  rintro x w1 ⟨rfl, rfl⟩
  go_wp2_with fail
  refine (NA.out _).mono ?_
  rintro x w2 ⟨rfl, rfl⟩
  go_wp2_with fail
  refine (NO.out _).mono ?_
  rintro x w3 ⟨rfl, rfl⟩
  have hBB := HB.out
  by_cases hlow : E < -1022
  · obtain ⟨q, hq⟩ : ∃ q : Nat, E + 1076 = (q : Int) := ⟨(E + 1076).toNat, by omega⟩
    have f6' : IntKind.i64.wrap (E + 53) = E + 53 := IntWalk.i64_in _ (by omega)
    have f7 : IntKind.i64.wrap (E + 53 + 1023) = (q : Int) := by rw [show E + 53 + 1023 = (q : Int) by omega]; exact IntWalk.i64_in _ (by omega)
    have hY : Ieee.double.mul 4368491638549381120 (q * 4503599627370496 + Fl.fracN m) = some R := Fl.mul_small HM.out.1 HM.out.2.1 HM.out.2.2.1 (hBB.2.2 hlow) HH.out (by rw [HK.out.1]; have := HKE.out.2; omega) (by rw [HK.out.1]; have := HKE.out.2; omega)
    rw [HK.out.2] at hY
    have hqb : q < 4096 := by omega
    have f8 : IntKind.u64.wrap (q : Int) = (q : Int) := by rw [IntKind.wrap_u64]; omega
    have f10 := or_exp F q HQ.out.2.1 hqb
    obtain ⟨Q, hQ⟩ : ∃ Q, q * 4503599627370496 = Q := ⟨_, rfl⟩
    have f9 : IntKind.u64.wrap ((q : Int) * 4503599627370496) = (Q : Int) := by rw [IntKind.wrap_u64]; omega
    rw [hQ] at f10 hY
    obtain ⟨Y, hYY⟩ : ∃ Y, Q + F = Y := ⟨_, rfl⟩
    rw [hYY] at f10 hY
    have f11 := fun W => run_frombits Y W
    have f12 := fun W => run_float_arith (P := Tryz.prog) W .mul 57 .f64 4368491638549381120 Y R hY
    have c3 : decide (E < -1022) = true := decide_eq_true hlow
    clear hq hlow hQ hYY hY hqb hBB
    go_wp2_with fail
    go_ret
    exact ⟨rfl, rfl⟩
  · obtain ⟨q, hq⟩ : ∃ q : Nat, E + 1023 = (q : Int) := ⟨(E + 1023).toNat, by omega⟩
    have f7 : IntKind.i64.wrap (E + 1023) = (q : Int) := by rw [hq]; exact IntWalk.i64_in _ (by omega)
    have hR' : R = q * 4503599627370496 + Fl.fracN m := Fl.same_normal HM.out.1 HM.out.2.1 HM.out.2.2.1 HM.out.2.2.2 HH.out (by rw [HK.out.1]; have := HKE.out.2; omega) (by omega)
    have hY : Ieee.double.mul 4607182418800017408 (q * 4503599627370496 + Fl.fracN m) = some R := by rw [← hR']; exact Fl.mul_one HM.out.2.2.1 HM.out.2.2.2
    rw [HK.out.2] at hY
    clear hR'
    have hqb : q < 4096 := by omega
    have f8 : IntKind.u64.wrap (q : Int) = (q : Int) := by rw [IntKind.wrap_u64]; omega
    have f10 := or_exp F q HQ.out.2.1 hqb
    obtain ⟨Q, hQ⟩ : ∃ Q, q * 4503599627370496 = Q := ⟨_, rfl⟩
    have f9 : IntKind.u64.wrap ((q : Int) * 4503599627370496) = (Q : Int) := by rw [IntKind.wrap_u64]; omega
    rw [hQ] at f10 hY
    obtain ⟨Y, hYY⟩ : ∃ Y, Q + F = Y := ⟨_, rfl⟩
    rw [hYY] at f10 hY
    have f11 := fun W => run_frombits Y W
    have f12 := fun W => run_float_arith (P := Tryz.prog) W .mul 57 .f64 4607182418800017408 Y R hY
    have c3 : decide (E < -1022) = false := decide_eq_false hlow
    clear hq hlow hQ hYY hY hqb hBB
    go_wp2_with fail
    go_ret
    exact ⟨rfl, rfl⟩
end Go.Proofs.YtjapgpmoojfhnaaGreatDoor
