/- From the number of quarters to the nearest rung; the library's reading is the nearest rung. The rounding of the floating-point operations is the nearest rung. The rounding of a quotient whose last digit says whether anything is left over. The product and the quotient of two floating-point numbers that are whole numbers are nearest to the true ones. The library's powers of .. -/
import Derived.Test.YtjapgpmoojfhnaaGreatDoorB02
import Derived.Test.YtjapgpmoojfhnaaGreatDoorB07
set_option maxHeartbeats 16000000
set_option maxRecDepth 100000
set_option linter.unusedSimpArgs false
set_option linter.unusedVariables false
namespace Go.Proofs.YtjapgpmoojfhnaaGreatDoor.Fl
open Ieee
theorem near_top {n dV k U q m : Nat} (hV : 0 < dV) (hq : q = 9007199254740991) (hm : m = 9007199254740992) (hden : ∀ q, q * 2 ^ k * dV = q * U) (up2 : n < 9007199254740992 * U) (lo : 18014398509481983 * U ≤ 2 * n) :
 Near n dV (min (k * 4503599627370496 + m) 9218868437227405312) := by
 have h1 : q * U ≤ n := by subst hq; omega
 have h2 : n < (q + 1) * U := by subst hq; omega
 have h3 : (2 * q + 1) * U ≤ 2 * n := by subst hq; omega
 refine near_of_rnd (k := k) (q := q) (m := m) hV (.inr (by omega)) (by omega) (by rw [hden]; exact h1) (by rw [hden]; exact h2) (.inr ⟨by omega, ?_⟩)
 rw [hden]
 rcases Nat.lt_or_ge ((2 * q + 1) * U) (2 * n) with h | h
 · exact .inl h
 · exact .inr ⟨Nat.le_antisymm h h3, by omega⟩
theorem near_fin {n dV k U : Nat} (hV : 0 < dV) (hUd : dV * 2 ^ k = U) (hge : k = 0 ∨ 4503599627370496 * U ≤ n) (hle : n + 17592186044416 * U ≤ 18014398509481984 * U) :
 Near n dV (if 36028797018963966 ≤ sticky (4 * n) U then pack (rnd4 (sticky (4 * n) U / 2 ||| sticky (4 * n) U % 2)) (((k + 1 : Nat) : Int) - 1074) else pack (rnd4 (sticky (4 * n) U)) ((k : Int) - 1074)) := by
 have hU : 0 < U := by rw [← hUd]; exact Nat.mul_pos hV (Nat.two_pow_pos _)
 have hden : ∀ q, q * 2 ^ k * dV = q * U := fun q => by rw [← hUd, Nat.mul_assoc, Nat.mul_comm (2 ^ k)]
 have hden2 : ∀ a, a * 2 ^ (k + 1) * dV = a * (U * 2) := fun a => by
  rw [Nat.pow_succ, ← Nat.mul_assoc, Nat.mul_right_comm, hden, Nat.mul_assoc]
 have eU2 : ∀ a, a * (U * 2) = a * 2 * U := fun a => by rw [Nat.mul_comm U 2, ← Nat.mul_assoc]
 obtain ⟨f, f0, f1, f2⟩ := sticky_cases n U hU
 by_cases hbig : 36028797018963966 ≤ sticky (4 * n) U
 · rw [if_pos hbig, sticky_half hU]
   have ff : 36028797018963966 ≤ f := by
    rcases f2 with ⟨_, e⟩ | ⟨_, e⟩
    · omega
    · rw [e] at hbig
      split at hbig <;> omega
   have fU : 36028797018963966 * U ≤ 4 * n := Nat.le_trans (Nat.mul_le_mul_right _ ff) f0
   obtain ⟨q, q0, q1, q2⟩ := rnd4_is (n := n) (U := U * 2) (by omega)
   have qlt : q < 9007199254740000 := by
    rw [eU2] at q0
    have h2 : q * 2 * U < 18014398509480000 * U := by omega
    have := Nat.lt_of_mul_lt_mul_right h2
    omega
   have qge : 4503599627370495 ≤ q := by
    rw [eU2] at q1
    have h2 : 36028797018963966 * U < (4 * ((q + 1) * 2)) * U := by rw [Nat.mul_assoc]; omega
    have := Nat.lt_of_mul_lt_mul_right h2
    omega
   clear f0 f1 f2 ff hbig f
   rcases Nat.lt_or_ge q 4503599627370496 with hq | hq
   · -- the number lies just below a power of two
     obtain rfl : q = 4503599627370495 := by omega
     have up2 : n < 9007199254740992 * U := by rw [eU2] at q1; omega
     have hm : rnd4 (sticky (4 * n) (U * 2)) = 4503599627370496 := by
      rcases q2 with ⟨_, h | h⟩ | ⟨h, _⟩
      · rw [eU2] at h; omega
      · have := h.2; omega
      · omega
     have e := pack_is (k := k + 1) (m := rnd4 (sticky (4 * n) (U * 2))) (by omega) (.inr (by omega))
     rw [e]
     have := near_top (m := 9007199254740992) hV rfl rfl hden up2 (by omega)
     rw [show (k + 1) * 4503599627370496 + rnd4 (sticky (4 * n) (U * 2)) = k * 4503599627370496 + 9007199254740992 by omega]
     exact this
   · have hm : rnd4 (sticky (4 * n) (U * 2)) < 9007199254740992 ∧ 4503599627370496 ≤ rnd4 (sticky (4 * n) (U * 2)) := by rcases q2 with ⟨h, _⟩ | ⟨h, _⟩ <;> omega
     rw [pack_is hm.1 (.inr hm.2)]
     refine near_of_rnd hV (.inr hq) (by omega) (by rw [hden2]; exact q0) (by rw [hden2]; exact q1) ?_
     rw [hden2]
     exact q2
 · rw [if_neg hbig]
   obtain ⟨q, q0, q1, q2⟩ := rnd4_is (n := n) (U := U) hU
   have hf : f ≤ 36028797018963965 := by
    rcases f2 with ⟨_, e⟩ | ⟨_, e⟩
    · omega
    · rw [e] at hbig
      split at hbig <;> omega
   have hst : sticky (4 * n) U ≤ 36028797018963965 := by omega
   have hqf : q < 9007199254740992 := by
    have h2 : (4 * q) * U < (f + 1) * U := by rw [Nat.mul_assoc]; omega
    have := Nat.lt_of_mul_lt_mul_right h2
    omega
   clear f0 f1 f2 hf f
   have hlow : k = 0 ∨ 4503599627370496 ≤ q := by
    rcases hge with h | h
    · exact .inl h
    · right
      have h3 : 4503599627370496 * U < (q + 1) * U := by omega
      have := Nat.lt_of_mul_lt_mul_right h3
      omega
   have hm : rnd4 (sticky (4 * n) U) < 9007199254740992 := by
    unfold rnd4
    omega
   rw [pack_is hm (by rcases q2 with ⟨h, _⟩ | ⟨h, _⟩ <;> omega)]
   refine near_of_rnd hV hlow hqf (by rw [hden]; exact q0) (by rw [hden]; exact q1) ?_
   rw [hden]
   exact q2
theorem pf64_near {d h l : Nat} {p : Int} (hd0 : 0 < d) (hd : d < 18446744073709551616) (h0 : -345 ≤ p) (h1 : p ≤ 310) (R : Row1 p h l) : Near (vN d p) (vD p) (pf64 h l d p) := by
 obtain ⟨lb0, lb1⟩ := lp_bounds h0 h1
 obtain ⟨b0, b1, x0, x1, dlt⟩ := bitl_bounds hd0 hd
 have hneg : p < 0 → lp p ≤ 127 := by intro h; unfold lp; omega
 have hV := vD_pos p
 have hT := tD_pos p
 unfold pf64
 obtain ⟨b, hb⟩ : ∃ b, bitl d = b := ⟨_, rfl⟩
 rw [hb] at b0 b1 x0 x1 dlt ⊢
 obtain ⟨e, he⟩ : ∃ e, pfe d p = e := ⟨_, rfl⟩
 obtain ⟨s, hs⟩ : ∃ s, pfs d p = s := ⟨_, rfl⟩
 have he' : e = min 1074 (53 - (b : Int) - lp p) := by rw [← he, pfe, hb]
 have hs' : s = 61 - (b : Int) - e - lp p := by rw [← hs, pfs, hb, he]
 rw [he, hs]
 by_cases h64 : 64 ≤ s
 · rw [if_pos h64]
   have hp : p < 0 := by
    rcases Int.lt_or_le p 0 with h | h
    · exact h
    · exfalso
      have : 0 ≤ lp p := by unfold lp; omega
      omega
   exact near_tiny dlt hp (by omega) R
 · rw [if_neg h64]
   have hs8 : 8 ≤ s := by omega
   obtain ⟨sn, hsn⟩ : ∃ n : Nat, s = n := ⟨s.toNat, by omega⟩
   obtain ⟨k, hk⟩ : ∃ n : Nat, e = 1074 - n := ⟨(1074 - e).toNat, by omega⟩
   have hsn8 : 8 ≤ sn := by omega
   rw [hsn, Int.toNat_natCast, usc_spec R x1 x0 hsn8]
   have hr := ratio (d := d) (p := p) (b := b) (s := sn) (k := k) b1 (by omega) lb0 hneg
   have hU : 0 < vD p * 2 ^ k := Nat.mul_pos hV (Nat.two_pow_pos _)
   have hDen : 0 < tD p * 2 ^ (128 + sn) := Nat.mul_pos hT (Nat.two_pow_pos _)
   simp only
   rw [sticky_eq hDen hU hr, show (1 - e : Int) = ((k + 1 : Nat) : Int) - 1074 by omega, show (-e : Int) = (k : Int) - 1074 by omega]
   have hpw : 2 ^ (128 + sn) = 340282366920938463463374607431768211456 * 2 ^ sn := by rw [Nat.pow_add]
   have c127 : (2 : Nat) ^ 127 = 170141183460469231731687303715884105728 := by decide
   have c128 : (2 : Nat) ^ 128 = 340282366920938463463374607431768211456 := by decide
   have c118 : (2 : Nat) ^ 118 = 332306998946228968225951765070086144 := by decide
   refine near_fin hV rfl ?_ ?_
   · rcases Nat.eq_zero_or_pos k with h | h
     · exact .inl h
     · right
       have hsn' : sn = 8 := by omega
       refine low_bound hT x0 (by have := R.big; rwa [c127] at this) ?_ hr
       rw [hpw, hsn']
   · refine high_bound hT x1 ?_ ?_ hr
     · have htop := R.top
       rw [c128, c118] at htop
       exact Nat.le_trans R.up (Nat.mul_le_mul_right _ (by omega))
     · rw [hpw]
       refine Nat.mul_le_mul_left _ ?_
       have := Nat.pow_le_pow_right (show 0 < 2 by decide) hsn8
       simpa using this
theorem fin_m {n dV k U : Nat} (hV : 0 < dV) (hUd : dV * 2 ^ k = U) (hle : n + 17592186044416 * U ≤ 18014398509481984 * U) : rnd4 (sticky (4 * n) U / 2 ||| sticky (4 * n) U % 2) < 9007199254740992 := by
 have hU : 0 < U := by rw [← hUd]; exact Nat.mul_pos hV (Nat.two_pow_pos _)
 rw [sticky_half hU]
 obtain ⟨q, q0, q1, q2⟩ := rnd4_is (n := n) (U := U * 2) (by omega)
 have qlt : q < 9007199254740000 := by
  rw [Nat.mul_comm U 2, ← Nat.mul_assoc] at q0
  have h2 : q * 2 * U < 18014398509480000 * U := by omega
  have := Nat.lt_of_mul_lt_mul_right h2
  omega
 rcases q2 with ⟨h, _⟩ | ⟨h, _⟩ <;> omega
theorem pf64_m {d h l : Nat} {p : Int} (hd0 : 0 < d) (hd : d < 18446744073709551616) (h0 : -345 ≤ p) (h1 : p ≤ 310) (R : Row1 p h l) (h64 : ¬ 64 ≤ pfs d p) :
 rnd4 (usc (d * 2 ^ (64 - bitl d)) h l (pfs d p).toNat / 2 ||| usc (d * 2 ^ (64 - bitl d)) h l (pfs d p).toNat % 2) < 9007199254740992 := by
 obtain ⟨lb0, lb1⟩ := lp_bounds h0 h1
 obtain ⟨b0, b1, x0, x1, dlt⟩ := bitl_bounds hd0 hd
 have hneg : p < 0 → lp p ≤ 127 := by intro h; unfold lp; omega
 have hV := vD_pos p
 have hT := tD_pos p
 obtain ⟨b, hb⟩ : ∃ b, bitl d = b := ⟨_, rfl⟩
 rw [hb] at b0 b1 x0 x1 dlt ⊢
 obtain ⟨e, he⟩ : ∃ e, pfe d p = e := ⟨_, rfl⟩
 obtain ⟨s, hs⟩ : ∃ s, pfs d p = s := ⟨_, rfl⟩
 have he' : e = min 1074 (53 - (b : Int) - lp p) := by rw [← he, pfe, hb]
 have hs' : s = 61 - (b : Int) - e - lp p := by rw [← hs, pfs, hb, he]
 rw [hs] at h64 ⊢
 have hs8 : 8 ≤ s := by omega
 obtain ⟨sn, hsn⟩ : ∃ n : Nat, s = n := ⟨s.toNat, by omega⟩
 obtain ⟨k, hk⟩ : ∃ n : Nat, e = 1074 - n := ⟨(1074 - e).toNat, by omega⟩
 have hsn8 : 8 ≤ sn := by omega
 rw [hsn, Int.toNat_natCast, usc_spec R x1 x0 hsn8]
 have hr := ratio (d := d) (p := p) (b := b) (s := sn) (k := k) b1 (by omega) lb0 hneg
 have hU : 0 < vD p * 2 ^ k := Nat.mul_pos hV (Nat.two_pow_pos _)
 have hDen : 0 < tD p * 2 ^ (128 + sn) := Nat.mul_pos hT (Nat.two_pow_pos _)
 rw [sticky_eq hDen hU hr]
 have hpw : 2 ^ (128 + sn) = 340282366920938463463374607431768211456 * 2 ^ sn := by rw [Nat.pow_add]
 have c128 : (2 : Nat) ^ 128 = 340282366920938463463374607431768211456 := by decide
 have c118 : (2 : Nat) ^ 118 = 332306998946228968225951765070086144 := by decide
 refine fin_m hV rfl (high_bound hT x1 ?_ ?_ hr)
 · have htop := R.top
   rw [c128, c118] at htop
   exact Nat.le_trans R.up (Nat.mul_le_mul_right _ (by omega))
 · rw [hpw]
   refine Nat.mul_le_mul_left _ ?_
   have := Nat.pow_le_pow_right (show 0 < 2 by decide) hsn8
   simpa using this
theorem usc_lt {x h l s : Nat} (hx : x < 18446744073709551616) (hh : h < 18446744073709551616) (hs : 8 ≤ s) : usc x h l s < 144115188075855872 := by
 have lA : x * h / 18446744073709551616 < 18446744073709551616 := by
  have : x * h < 18446744073709551616 * 18446744073709551616 := Nat.mul_lt_mul_of_lt_of_lt hx hh
  omega
 have key : ∀ a, a < 18446744073709551616 → a / 2 ^ s < 72057594037927937 := fun a ha => by
  have h2 : (2 : Nat) ^ 8 ≤ 2 ^ s := Nat.pow_le_pow_right (by decide) hs
  have h3 : a / 2 ^ s ≤ a / 2 ^ 8 := Nat.div_le_div_left h2 (by decide)
  have h4 : a / 2 ^ 8 = a / 256 := rfl
  omega
 have or1 : ∀ a, a < 72057594037927937 → ∀ b, b < 2 → a ||| b < 144115188075855872 := fun a ha b hb => by
  rcases (show b = 0 ∨ b = 1 by omega) with rfl | rfl
  · rw [Nat.or_zero]; omega
  · rw [or_one]; split <;> omega
 unfold usc
 simp only
 split
 · exact or1 _ (key _ lA) 1 (by decide)
 · refine or1 _ ?_ _ (by split <;> decide)
   split
   · exact key _ (by omega)
   · exact key _ lA
theorem near_frac {m n d : Nat} {e : Int} (hm : m ≠ 0) (hd : 0 < d) (hr : n * 2 ^ (-(e + 1074)).toNat = m * 2 ^ (e + 1074).toNat * d) : Near n d (double.nearest false m e) := by
 have hnear := nearest_is double m e hm
 obtain ⟨d1, d2, d3, d4, _⟩ := double_is
 rw [d1, d2, d3] at hnear
 rw [hnear]
 obtain ⟨lg0, lg1⟩ := lt_log m hm
 obtain ⟨kl1, kl2, kl3⟩ := kept_le double m e hm
 rw [d3] at kl3
 rw [d4] at kl1 kl2 kl3
 have hL : lastP double m e = max (e + m.log2 - 52) (-1074) := by unfold lastP; rw [d3, d4]; rfl
 obtain ⟨L, hLL⟩ : ∃ L, lastP double m e = L := ⟨_, rfl⟩
 rw [hLL] at kl2 kl3 hL ⊢
 have hk0 : -1074 ≤ L := by omega
 obtain ⟨k, hk⟩ : ∃ k : Nat, L = (k : Int) - 1074 := ⟨(L + 1074).toNat, by omega⟩
 rw [show (L - -1074).toNat = k by omega]
 have p52 : (2 : Nat) ^ 52 = 4503599627370496 := by decide
 have p53 : (2 : Nat) ^ (52 + 1) = 9007199254740992 := by decide
 rw [p53] at kl1 kl2
 rw [p52] at kl3
 by_cases hle : L ≤ e
 · -- nothing is dropped
   have hkp : keptP double m e = m * 2 ^ (e - L).toNat := by unfold keptP; rw [hLL, if_pos hle]
   obtain ⟨q, hq⟩ : ∃ q, keptP double m e = q := ⟨_, rfl⟩
   rw [hq] at kl1 kl2 kl3 hkp ⊢
   have e0 : (-(e + 1074)).toNat = 0 := by omega
   rw [e0, Nat.pow_zero, Nat.mul_one] at hr
   have hval : q * 2 ^ k * d = n := by
    rw [hr, hkp, Nat.mul_assoc m, ← Nat.pow_add, show (e - L).toNat + k = (e + 1074).toNat by omega]
   refine near_of_rnd (q := q) hd ?_ (kl2 hle) (Nat.le_of_eq hval) ?_ (.inl ⟨rfl, .inl ?_⟩)
   · by_cases h0 : k = 0
     · exact .inl h0
     · exact .inr (kl3 (by omega))
   · rw [Nat.add_mul, Nat.add_mul, hval, Nat.one_mul]
     have : 0 < 2 ^ k * d := Nat.mul_pos (Nat.two_pow_pos _) hd
     omega
   · rw [Nat.add_mul, Nat.add_mul, Nat.mul_assoc 2, Nat.mul_assoc 2, hval, Nat.one_mul]
     have : 0 < 2 ^ k * d := Nat.mul_pos (Nat.two_pow_pos _) hd
     omega
 · obtain ⟨c, hc⟩ : ∃ c : Nat, L - e = c := ⟨(L - e).toNat, by omega⟩
   have hkp : keptP double m e = rnd m c := by unfold keptP; rw [hLL, if_neg hle, show (L - e).toNat = c by omega]
   rw [hkp]
   have hc0 : 0 < c := by omega
   have hP : 0 < 2 ^ c := Nat.two_pow_pos c
   have hdm := Nat.div_add_mod m (2 ^ c)
   have hml := Nat.mod_lt m hP
   obtain ⟨q, hq⟩ : ∃ q, m / 2 ^ c = q := ⟨_, rfl⟩
   obtain ⟨r, hrr⟩ : ∃ r, m % 2 ^ c = r := ⟨_, rfl⟩
   have hrnd : rnd m c = q + (if 2 ^ (c - 1) < r ∨ (r = 2 ^ (c - 1) ∧ q % 2 = 1) then 1 else 0) := by unfold rnd; rw [hq, hrr]
   rw [hrr] at hml hdm
   rw [hq] at hdm
   have hhalf : 2 ^ c = 2 * 2 ^ (c - 1) := by rw [← Nat.pow_succ']; congr 1; omega
   have key : n * 2 ^ c = m * (2 ^ k * d) := by
    have e1 : n * 2 ^ c * 2 ^ (-(e + 1074)).toNat = m * (2 ^ k * d) * 2 ^ (-(e + 1074)).toNat := by
     rw [Nat.mul_right_comm, hr]
     have e2 : 2 ^ (e + 1074).toNat * 2 ^ c = 2 ^ k * 2 ^ (-(e + 1074)).toNat := by rw [← Nat.pow_add, ← Nat.pow_add]; congr 1; omega
     calc m * 2 ^ (e + 1074).toNat * d * 2 ^ c = m * d * (2 ^ (e + 1074).toNat * 2 ^ c) := by simp only [Nat.mul_assoc, Nat.mul_comm, Nat.mul_left_comm]
      _ = m * d * (2 ^ k * 2 ^ (-(e + 1074)).toNat) := by rw [e2]
      _ = _ := by simp only [Nat.mul_assoc, Nat.mul_comm]
    exact Nat.eq_of_mul_eq_mul_right (Nat.two_pow_pos _) e1
   obtain ⟨U, hU⟩ : ∃ U, 2 ^ k * d = U := ⟨_, rfl⟩
   have hU0 : 0 < U := by rw [← hU]; exact Nat.mul_pos (Nat.two_pow_pos _) hd
   rw [hU] at key
   have den : ∀ a, a * 2 ^ k * d = a * U := fun a => by rw [Nat.mul_assoc, hU]
   obtain ⟨P, hPP⟩ : ∃ P, 2 ^ c = P := ⟨_, rfl⟩
   obtain ⟨H, hH⟩ : ∃ H, 2 ^ (c - 1) = H := ⟨_, rfl⟩
   rw [hPP] at hP hdm hml key hhalf
   rw [hH] at hhalf hrnd
   rw [hhalf] at key hdm hml hP
   have hq53 : q < 9007199254740992 := by
    rw [← hq]
    refine (Nat.div_lt_iff_lt_mul (Nat.two_pow_pos c)).2 (Nat.lt_of_lt_of_le lg1 ?_)
    rw [← p53, ← Nat.pow_add]
    exact Nat.pow_le_pow_right (by decide) (by omega)
   have hlow : k = 0 ∨ 4503599627370496 ≤ q := by
    by_cases h0 : k = 0
    · exact .inl h0
    · right
      rw [← hq]
      refine (Nat.le_div_iff_mul_le (Nat.two_pow_pos c)).2 (Nat.le_trans ?_ lg0)
      rw [← p52, ← Nat.pow_add]
      exact Nat.pow_le_pow_right (by decide) (by omega)
   have up : ∀ a b : Nat, a ≤ b * m → a * U ≤ b * n * (2 * H) := fun a b h => by
    rw [Nat.mul_assoc b, key, ← Nat.mul_assoc]
    exact Nat.mul_le_mul_right _ h
   have upl : ∀ a b : Nat, b * m < a → b * n * (2 * H) < a * U := fun a b h => by
    rw [Nat.mul_assoc b, key, ← Nat.mul_assoc]
    exact Nat.mul_lt_mul_of_pos_right h hU0
   have cancel_le : ∀ a b : Nat, a * (2 * H) ≤ b * (2 * H) → a ≤ b := fun a b h => Nat.le_of_mul_le_mul_right h hP
   have cancel_lt : ∀ a b : Nat, a * (2 * H) < b * (2 * H) → a < b := fun a b h => Nat.lt_of_mul_lt_mul_right h
   have sw : ∀ a, a * U * (2 * H) = a * (2 * H) * U := fun a => Nat.mul_right_comm _ _ _
   have hqm : q * (2 * H) ≤ m := by rw [Nat.mul_comm]; omega
   have hqm1 : m < (q + 1) * (2 * H) := by rw [Nat.add_mul, Nat.one_mul, Nat.mul_comm q]; omega
   have l0 : q * U ≤ n := cancel_le _ _ (by rw [sw]; have := up (q * (2 * H)) 1 (by omega); rwa [Nat.one_mul] at this)
   have l1 : n < (q + 1) * U := cancel_lt _ _ (by rw [sw]; have := upl ((q + 1) * (2 * H)) 1 (by omega); rwa [Nat.one_mul] at this)
   have h2m : 2 * m = 2 * (2 * H * q) + 2 * r := by omega
   have e2 : (2 * q + 1) * (2 * H) = 2 * (2 * H * q) + 2 * H := by rw [Nat.add_mul, Nat.one_mul, Nat.mul_assoc 2 q, Nat.mul_comm q]
   have e3 : 2 * n * (2 * H) = 2 * m * U := by rw [Nat.mul_assoc 2 n, key, ← Nat.mul_assoc]
   have lt_mid : r < H → 2 * n < (2 * q + 1) * U := fun h => cancel_lt _ _ (by rw [sw]; exact upl _ 2 (by rw [e2]; omega))
   have gt_mid : H < r → (2 * q + 1) * U < 2 * n := fun h => cancel_lt _ _ (by
    rw [sw, e3]
    refine Nat.mul_lt_mul_of_pos_right ?_ hU0
    rw [e2]
    omega)
   have eq_mid : r = H → 2 * n = (2 * q + 1) * U := fun h => Nat.eq_of_mul_eq_mul_right hP (by
    rw [sw, e3]
    congr 1
    rw [e2]; omega)
   refine near_of_rnd (q := q) hd hlow hq53 (by rw [den]; exact l0) (by rw [den]; exact l1) ?_
   rw [den, hrnd]
   rcases Nat.lt_trichotomy r H with h | h | h
   · left
     rw [if_neg (by omega)]
     exact ⟨rfl, .inl (lt_mid h)⟩
   · rcases Nat.mod_two_eq_zero_or_one q with ho | ho
     · left
       rw [if_neg (by omega)]
       exact ⟨rfl, .inr ⟨eq_mid h, ho⟩⟩
     · right
       rw [if_pos (.inr ⟨h, ho⟩)]
       exact ⟨rfl, .inr ⟨eq_mid h, ho⟩⟩
   · right
     rw [if_pos (.inl h)]
     exact ⟨rfl, .inl (gt_mid h)⟩
theorem near_sticky {m n d : Nat} {e : Int} (hm1 : m % 2 = 1) (hlg : 54 ≤ m.log2) (hd : 0 < d) (h1 : (m - 1) * (2 ^ (e + 1074).toNat * d) < n * 2 ^ (-(e + 1074)).toNat) (h2 : n * 2 ^ (-(e + 1074)).toNat < (m + 1) * (2 ^ (e + 1074).toNat * d)) :
 Near n d (double.nearest false m e) := by
 have hm : m ≠ 0 := by omega
 have hnear := nearest_is double m e hm
 obtain ⟨d1, d2, d3, d4, _⟩ := double_is
 rw [d1, d2, d3] at hnear
 rw [hnear]
 obtain ⟨lg0, lg1⟩ := lt_log m hm
 have hL : lastP double m e = max (e + m.log2 - 52) (-1074) := by unfold lastP; rw [d3, d4]; rfl
 obtain ⟨L, hLL⟩ : ∃ L, lastP double m e = L := ⟨_, rfl⟩
 rw [hLL] at hL ⊢
 obtain ⟨k, hk⟩ : ∃ k : Nat, L = (k : Int) - 1074 := ⟨(L + 1074).toNat, by omega⟩
 rw [show (L - -1074).toNat = k by omega]
 have p52 : (2 : Nat) ^ 52 = 4503599627370496 := by decide
 have p53 : (2 : Nat) ^ (52 + 1) = 9007199254740992 := by decide
 obtain ⟨c, hc⟩ : ∃ c : Nat, L - e = c := ⟨(L - e).toNat, by omega⟩
 have hkp : keptP double m e = rnd m c := by unfold keptP; rw [hLL, if_neg (by omega), show (L - e).toNat = c by omega]
 rw [hkp]
 have hc3 : 2 ≤ c := by omega
 have hP : 0 < 2 ^ c := Nat.two_pow_pos c
 have hdm := Nat.div_add_mod m (2 ^ c)
 have hml := Nat.mod_lt m hP
 have hq53 : m / 2 ^ c < 9007199254740992 := by
  refine (Nat.div_lt_iff_lt_mul (Nat.two_pow_pos c)).2 (Nat.lt_of_lt_of_le lg1 ?_)
  rw [← p53, ← Nat.pow_add]
  exact Nat.pow_le_pow_right (by decide) (by omega)
 have hlow : k = 0 ∨ 4503599627370496 ≤ m / 2 ^ c := by
  by_cases h0 : k = 0
  · exact .inl h0
  · right
    refine (Nat.le_div_iff_mul_le (Nat.two_pow_pos c)).2 (Nat.le_trans ?_ lg0)
    rw [← p52, ← Nat.pow_add]
    exact Nat.pow_le_pow_right (by decide) (by omega)
 obtain ⟨q, hq⟩ : ∃ q, m / 2 ^ c = q := ⟨_, rfl⟩
 obtain ⟨r, hrr⟩ : ∃ r, m % 2 ^ c = r := ⟨_, rfl⟩
 have hrnd : rnd m c = q + (if 2 ^ (c - 1) < r ∨ (r = 2 ^ (c - 1) ∧ q % 2 = 1) then 1 else 0) := by unfold rnd; rw [hq, hrr]
 rw [hrr] at hml hdm
 rw [hq] at hdm hq53 hlow
 have hhalf : 2 ^ c = 2 * 2 ^ (c - 1) := by rw [← Nat.pow_succ']; congr 1; omega
 have hquart : 2 ^ (c - 1) = 2 * 2 ^ (c - 2) := by rw [← Nat.pow_succ']; congr 1; omega
 have e2 : 2 ^ (e + 1074).toNat * 2 ^ c = 2 ^ k * 2 ^ (-(e + 1074)).toNat := by rw [← Nat.pow_add, ← Nat.pow_add]; congr 1; omega
 have swap : ∀ a, a * (2 ^ (e + 1074).toNat * d) * 2 ^ c = a * (2 ^ k * d) * 2 ^ (-(e + 1074)).toNat := fun a => by
  calc a * (2 ^ (e + 1074).toNat * d) * 2 ^ c = a * d * (2 ^ (e + 1074).toNat * 2 ^ c) := by simp only [Nat.mul_assoc, Nat.mul_comm, Nat.mul_left_comm]
   _ = a * d * (2 ^ k * 2 ^ (-(e + 1074)).toNat) := by rw [e2]
   _ = _ := by simp only [Nat.mul_assoc, Nat.mul_comm, Nat.mul_left_comm]
 have k1 : (m - 1) * (2 ^ k * d) < n * 2 ^ c := by
  have h := Nat.mul_lt_mul_of_pos_right h1 hP
  rw [swap, Nat.mul_right_comm n] at h
  exact Nat.lt_of_mul_lt_mul_right h
 have k2 : n * 2 ^ c < (m + 1) * (2 ^ k * d) := by
  have h := Nat.mul_lt_mul_of_pos_right h2 hP
  rw [swap, Nat.mul_right_comm n] at h
  exact Nat.lt_of_mul_lt_mul_right h
 obtain ⟨U, hU⟩ : ∃ U, 2 ^ k * d = U := ⟨_, rfl⟩
 have hU0 : 0 < U := by rw [← hU]; exact Nat.mul_pos (Nat.two_pow_pos _) hd
 rw [hU] at k1 k2
 have den : ∀ a, a * 2 ^ k * d = a * U := fun a => by rw [Nat.mul_assoc, hU]
 obtain ⟨P, hPP⟩ : ∃ P, 2 ^ c = P := ⟨_, rfl⟩
 obtain ⟨H, hH⟩ : ∃ H, 2 ^ (c - 1) = H := ⟨_, rfl⟩
 obtain ⟨K, hK⟩ : ∃ K, 2 ^ (c - 2) = K := ⟨_, rfl⟩
 rw [hPP] at hP hdm hml k1 k2 hhalf
 rw [hH] at hhalf hquart hrnd
 rw [hK] at hquart
 rw [hhalf] at k1 k2 hdm hml hP
 clear hPP hH hK hhalf h1 h2 e2 swap hq hrr hnear lg0 lg1 hL hLL hkp
 have hrodd : r % 2 = 1 := by
  have : 2 * H * q = 2 * (H * q) := Nat.mul_assoc 2 H q
  omega
 have cancel_le : ∀ a b : Nat, a * (2 * H) ≤ b * (2 * H) → a ≤ b := fun a b h => Nat.le_of_mul_le_mul_right h hP
 have cancel_lt : ∀ a b : Nat, a * (2 * H) < b * (2 * H) → a < b := fun a b h => Nat.lt_of_mul_lt_mul_right h
 have sw : ∀ a, a * U * (2 * H) = a * (2 * H) * U := fun a => Nat.mul_right_comm _ _ _
 have hqm : q * (2 * H) ≤ m - 1 := by rw [Nat.mul_comm]; omega
 have hqm1 : m + 1 ≤ (q + 1) * (2 * H) := by rw [Nat.add_mul, Nat.one_mul, Nat.mul_comm q]; omega
 have l0 : q * U ≤ n := cancel_le _ _ (by
  rw [sw]
  exact Nat.le_of_lt (Nat.lt_of_le_of_lt (Nat.mul_le_mul_right _ hqm) k1))
 have l1 : n < (q + 1) * U := cancel_lt _ _ (by
  rw [sw]
  exact Nat.lt_of_lt_of_le k2 (Nat.mul_le_mul_right _ hqm1))
 have e2 : (2 * q + 1) * (2 * H) = 2 * (2 * H * q) + 2 * H := by rw [Nat.add_mul, Nat.one_mul, Nat.mul_assoc 2 q, Nat.mul_comm q]
 have lt_mid : r < H → 2 * n < (2 * q + 1) * U := fun h => cancel_lt _ _ (by
  rw [sw, Nat.mul_assoc 2 n]
  have h3 : 2 * ((m + 1) * U) ≤ (2 * q + 1) * (2 * H) * U := by
   rw [← Nat.mul_assoc 2 (m + 1) U]
   refine Nat.mul_le_mul_right _ ?_
   rw [e2]
   omega
  omega)
 have gt_mid : H < r → (2 * q + 1) * U < 2 * n := fun h => cancel_lt _ _ (by
  rw [sw, Nat.mul_assoc 2 n]
  have h3 : (2 * q + 1) * (2 * H) * U ≤ 2 * ((m - 1) * U) := by
   rw [← Nat.mul_assoc 2 (m - 1) U]
   refine Nat.mul_le_mul_right _ ?_
   rw [e2]
   omega
  omega)
 refine near_of_rnd (q := q) hd hlow hq53 (by rw [den]; exact l0) (by rw [den]; exact l1) ?_
 rw [den, hrnd]
 rcases Nat.lt_trichotomy r H with h | h | h
 · left
   rw [if_neg (by omega)]
   exact ⟨rfl, .inl (lt_mid h)⟩
 · exfalso; omega
 · right
   rw [if_pos (.inl h)]
   exact ⟨rfl, .inl (gt_mid h)⟩
theorem near_quot {m n N D : Nat} {i j : Int} (hm0 : 0 < m) (hm : m < 9007199254740992) (hn0 : 0 < n) (hD : 0 < D) (hr : N * n * 2 ^ (-(i - j + 1074)).toNat = m * D * 2 ^ (i - j + 1074).toNat) :
 Near N D (double.nearest false (2 * (m <<< (54 + n.log2 - m.log2) / n) + (m <<< (54 + n.log2 - m.log2) % n != 0).toNat) (i - j - ((54 + n.log2 - m.log2 : Nat) : Int) - 1)) := by
 obtain ⟨m0, _⟩ := lt_log m (by omega)
 obtain ⟨_, n1⟩ := lt_log n (by omega)
 have ml : m.log2 ≤ 52 := by
  have := (Nat.log2_lt (by omega : m ≠ 0)).2 (show m < 2 ^ 53 by omega)
  omega
 obtain ⟨t, ht⟩ : ∃ t, 54 + n.log2 - m.log2 = t := ⟨_, rfl⟩
 rw [ht, Nat.shiftLeft_eq]
 obtain ⟨e, he⟩ : ∃ e, i - j - (t : Int) - 1 = e := ⟨_, rfl⟩
 rw [he]
 obtain ⟨A, hA⟩ : ∃ A, N * 2 ^ (-(e + 1074)).toNat = A := ⟨_, rfl⟩
 obtain ⟨B, hB⟩ : ∃ B, 2 ^ (e + 1074).toNat * D = B := ⟨_, rfl⟩
 have key : n * A = 2 * (m * 2 ^ t) * B := by
  have e3 : 2 ^ (i - j + 1074).toNat * 2 ^ (-(e + 1074)).toNat = 2 * 2 ^ t * 2 ^ (e + 1074).toNat * 2 ^ (-(i - j + 1074)).toNat := by
   rw [← Nat.pow_succ', ← Nat.pow_add, ← Nat.pow_add, ← Nat.pow_add]
   congr 1
   omega
  refine Nat.eq_of_mul_eq_mul_right (Nat.two_pow_pos (-(i - j + 1074)).toNat) ?_
  calc n * A * 2 ^ (-(i - j + 1074)).toNat = N * n * 2 ^ (-(i - j + 1074)).toNat * 2 ^ (-(e + 1074)).toNat := by rw [← hA]; simp only [Nat.mul_assoc, Nat.mul_comm, Nat.mul_left_comm]
   _ = m * D * (2 ^ (i - j + 1074).toNat * 2 ^ (-(e + 1074)).toNat) := by rw [hr]; simp only [Nat.mul_assoc]
   _ = m * D * (2 * 2 ^ t * 2 ^ (e + 1074).toNat * 2 ^ (-(i - j + 1074)).toNat) := by rw [e3]
   _ = _ := by rw [← hB]; simp only [Nat.mul_assoc, Nat.mul_comm, Nat.mul_left_comm]
 obtain ⟨X, hX⟩ : ∃ X, m * 2 ^ t = X := ⟨_, rfl⟩
 have hXl : 2 ^ 54 * 2 ^ n.log2 ≤ X := by
  rw [← hX]
  have e1 : 2 ^ (m.log2) * 2 ^ t ≤ m * 2 ^ t := Nat.mul_le_mul_right _ m0
  rwa [← Nat.pow_add, show m.log2 + t = 54 + n.log2 by omega, Nat.pow_add] at e1
 rw [hX] at key ⊢
 have hdm := Nat.div_add_mod X n
 have hml := Nat.mod_lt X hn0
 have hq : 2 ^ 53 ≤ X / n := by
  refine (Nat.le_div_iff_mul_le hn0).2 (Nat.le_trans ?_ hXl)
  have e1 : (2 : Nat) ^ 54 = 2 ^ 53 * 2 := by decide
  rw [e1, Nat.mul_assoc]
  refine Nat.mul_le_mul_left _ ?_
  rw [Nat.mul_comm, ← Nat.pow_succ]
  exact Nat.le_of_lt n1
 obtain ⟨q, hqq⟩ : ∃ q, X / n = q := ⟨_, rfl⟩
 obtain ⟨r, hrr⟩ : ∃ r, X % n = r := ⟨_, rfl⟩
 rw [hqq] at hdm hq ⊢
 rw [hrr] at hdm hml ⊢
 have p53 : (2 : Nat) ^ 53 = 9007199254740992 := by decide
 rw [p53] at hq
 by_cases h0 : r = 0
 · rw [h0]
   have hs : (((0 : Nat) != 0 : Bool)).toNat = 0 := rfl
   rw [hs, Nat.add_zero]
   refine near_frac (by omega) hD ?_
   rw [hA]
   have h1 : n * A = n * (2 * q * 2 ^ (e + 1074).toNat * D) := by
    rw [key, ← hdm, h0, Nat.add_zero, ← hB]
    simp only [Nat.mul_assoc, Nat.mul_comm, Nat.mul_left_comm]
   exact Nat.eq_of_mul_eq_mul_left hn0 h1
 · have hs : ((r != 0 : Bool)).toNat = 1 := by
    have : (r != 0) = true := by simp [h0]
    rw [this]; rfl
   rw [hs]
   have hB0 : 0 < B := by rw [← hB]; exact Nat.mul_pos (Nat.two_pow_pos _) hD
   have hlog : 54 ≤ (2 * q + 1).log2 := (Nat.le_log2 (by omega)).2 (by
    have : (2 : Nat) ^ 54 = 18014398509481984 := by decide
    rw [this]; omega)
   refine near_sticky (by omega) hlog hD ?_ ?_
   · rw [hA, hB]
     refine Nat.lt_of_mul_lt_mul_left (a := n) ?_
     rw [key, ← Nat.mul_assoc]
     refine Nat.mul_lt_mul_of_pos_right ?_ hB0
     rw [← hdm, Nat.mul_add, show 2 * q + 1 - 1 = 2 * q by omega, Nat.mul_left_comm n 2 q]
     omega
   · rw [hA, hB]
     refine Nat.lt_of_mul_lt_mul_left (a := n) ?_
     rw [key, ← Nat.mul_assoc]
     refine Nat.mul_lt_mul_of_pos_right ?_ hB0
     rw [← hdm, Nat.mul_add, show n * (2 * q + 1 + 1) = 2 * (n * q) + 2 * n by rw [show 2 * q + 1 + 1 = 2 * (q + 1) by omega, Nat.mul_left_comm, Nat.mul_add, Nat.mul_one, Nat.mul_add]]
     omega
theorem pow_part {a b x y : Nat} (h : a * 2 ^ x = b * 2 ^ y) : a * 2 ^ (-((y : Int) - x)).toNat = b * 2 ^ ((y : Int) - x).toNat := by
 rcases Nat.le_total x y with hxy | hxy
 · rw [show (-((y : Int) - x)).toNat = 0 by omega, show ((y : Int) - x).toNat = y - x by omega, Nat.pow_zero, Nat.mul_one]
   refine Nat.eq_of_mul_eq_mul_right (Nat.two_pow_pos x) ?_
   rw [h, Nat.mul_assoc, ← Nat.pow_add, show y - x + x = y by omega]
 · rw [show (-((y : Int) - x)).toNat = x - y by omega, show ((y : Int) - x).toNat = 0 by omega, Nat.pow_zero, Nat.mul_one]
   refine Nat.eq_of_mul_eq_mul_right (Nat.two_pow_pos y) ?_
   rw [← h, Nat.mul_assoc, ← Nat.pow_add, show x - y + y = x by omega]
theorem val_mag (r : Nat) : ∃ i : Nat, rplace double r = (i : Int) - 1074 ∧ val double r = rmag double r * 2 ^ i := by
 have h := place_ge double r
 rw [d_least] at h
 refine ⟨(rplace double r + 1074).toNat, by omega, ?_⟩
 unfold val
 rw [d_least, show rplace double r - -1074 = rplace double r + 1074 by omega]
theorem mul_near {R T a b : Nat} (hR : val double R = a * 2 ^ 1074) (hT : val double T = b * 2 ^ 1074) (hR0 : 0 < R) (hT0 : 0 < T) : Near (a * b * 2 ^ 1074) 1 (double.nearest false (rmag double R * rmag double T) (rplace double R + rplace double T)) := by
 obtain ⟨i, hi, vi⟩ := val_mag R
 obtain ⟨j, hj, vj⟩ := val_mag T
 have m0 := rmag_pos (f := double) hR0
 have n0 := rmag_pos (f := double) hT0
 have mn : rmag double R * rmag double T ≠ 0 := Nat.ne_of_gt (Nat.mul_pos m0 n0)
 refine near_frac mn (by decide) ?_
 rw [Nat.mul_one]
 obtain ⟨z, hz⟩ : ∃ z : Nat, z = 1074 := ⟨_, rfl⟩
 rw [← hz] at hR hT ⊢
 have h : a * b * 2 ^ z * 2 ^ z = rmag double R * rmag double T * 2 ^ (i + j) := by
  calc a * b * 2 ^ z * 2 ^ z = (a * 2 ^ z) * (b * 2 ^ z) := by simp only [Nat.mul_assoc, Nat.mul_comm, Nat.mul_left_comm]
   _ = (rmag double R * 2 ^ i) * (rmag double T * 2 ^ j) := by rw [← hR, ← hT, vi, vj]
   _ = _ := by rw [Nat.pow_add]; simp only [Nat.mul_assoc, Nat.mul_comm, Nat.mul_left_comm]
 have := pow_part h
 rw [show ((i + j : Nat) : Int) - (z : Int) = rplace double R + rplace double T + 1074 by omega] at this
 exact this
theorem div_near {R T a b : Nat} (hR : val double R = a * 2 ^ 1074) (hT : val double T = b * 2 ^ 1074) (hR0 : 0 < R) (hT0 : 0 < T) (hb : 0 < b) :
 Near (a * 2 ^ 1074) b (double.nearest false (2 * (rmag double R <<< (54 + (rmag double T).log2 - (rmag double R).log2) / rmag double T) + (rmag double R <<< (54 + (rmag double T).log2 - (rmag double R).log2) % rmag double T != 0).toNat)
  (rplace double R - rplace double T - ((54 + (rmag double T).log2 - (rmag double R).log2 : Nat) : Int) - 1)) := by
 obtain ⟨i, hi, vi⟩ := val_mag R
 obtain ⟨j, hj, vj⟩ := val_mag T
 have m0 := rmag_pos (f := double) hR0
 have n0 := rmag_pos (f := double) hT0
 have ml := rmag_lt double R
 have p53 : (2 : Nat) ^ (52 + 1) = 9007199254740992 := by decide
 obtain ⟨_, _, _, d4, _⟩ := double_is
 rw [d4, p53] at ml
 refine near_quot m0 ml n0 hb ?_
 obtain ⟨z, hz⟩ : ∃ z : Nat, z = 1074 := ⟨_, rfl⟩
 rw [← hz] at hR hT ⊢
 have h : a * 2 ^ z * rmag double T * 2 ^ j = rmag double R * b * 2 ^ (i + z) := by
  calc a * 2 ^ z * rmag double T * 2 ^ j = (a * 2 ^ z) * (rmag double T * 2 ^ j) := by rw [Nat.mul_assoc]
   _ = (rmag double R * 2 ^ i) * (b * 2 ^ z) := by rw [← hR, ← hT, vi, vj]
   _ = _ := by rw [Nat.pow_add]; simp only [Nat.mul_assoc, Nat.mul_comm, Nat.mul_left_comm]
 have := pow_part h
 rw [show ((i + z : Nat) : Int) - (j : Int) = rplace double R - rplace double T + (z : Int) by omega] at this
 subst hz
 exact this
theorem word_false (f : Format) (n : Nat) : f.word false n = n := by
 unfold Format.word
 rfl
theorem nearest_neg (f : Format) (g : Bool) (m : Nat) (e : Int) : f.nearest g m e = f.word g (f.nearest false m e) := by
 by_cases h : m = 0
 · unfold Format.nearest
   rw [if_pos h, if_pos h, word_false]
 · unfold Format.nearest
   simp only [if_neg h]
   rw [word_false]
   rfl
theorem mul_words (f : Format) {g : Bool} {R T : Nat} (hR : R < f.infRung) (hT : T < f.infRung) :
 f.mul (f.word g R) (f.word false T) = some (f.word g (f.nearest false (rmag f R * rmag f T) (rplace f R + rplace f T))) := by
 unfold Format.mul
 rw [read_rung f g hR, read_rung f false hT]
 show some (f.nearest (g ^^ false) _ _) = _
 rw [Bool.xor_false, nearest_neg]
theorem div_words (f : Format) {g : Bool} {R T : Nat} (hf : f.fractionBits = 52) (hR : R < f.infRung) (hT : T < f.infRung) (hT0 : rmag f T ≠ 0) :
 f.div (f.word g R) (f.word false T) = some (f.word g (f.nearest false (2 * (rmag f R <<< (54 + (rmag f T).log2 - (rmag f R).log2) / rmag f T) + (rmag f R <<< (54 + (rmag f T).log2 - (rmag f R).log2) % rmag f T != 0).toNat)
  (rplace f R - rplace f T - ((54 + (rmag f T).log2 - (rmag f R).log2 : Nat) : Int) - 1))) := by
 unfold Format.div
 rw [read_rung f g hR, read_rung f false hT]
 unfold Datum.quotient
 simp only [hT0, if_false, hf]
 show some (f.nearest (g ^^ false) _ _) = _
 rw [Bool.xor_false, nearest_neg]
def tenW : List Nat := [4607182418800017408, 4621819117588971520, 4636737291354636288, 4652007308841189376, 4666723172467343360, 4681608360884174848, 4696837146684686336, 4711630319722168320, 4726483295884279808, 4741671816366391296, 4756540486875873280, 4771362005757984768, 4786511204640096256, 4801453603149578240, 4816244402031689728, 4831355200913801216, 4846369599423283200, 4861130398305394688, 4876203697187506176, 4891288408196988160, 4906019910204099648, 4921056587992461136, 4936209963552724370]
def tenOk (k : Nat) : Bool := (val double (tenW.getD k 0) == 10 ^ k * 2 ^ 1074) && (decide (0 < tenW.getD k 0) && decide (tenW.getD k 0 < 9218868437227405312))
theorem tens_ok : (List.range 23).all tenOk = true := by decide +kernel
theorem ten_val {k : Nat} (h : k < 23) : val double (tenW.getD k 0) = 10 ^ k * 2 ^ 1074 ∧ 0 < tenW.getD k 0 ∧ tenW.getD k 0 < 9218868437227405312 := by
 have := List.all_eq_true.mp tens_ok k (List.mem_range.mpr h)
 unfold tenOk at this
 rw [Bool.and_eq_true, Bool.and_eq_true] at this
 exact ⟨eq_of_beq this.1, of_decide_eq_true this.2.1, of_decide_eq_true this.2.2⟩
theorem wordN_rung {m : Nat} (h0 : 0 < m) (h : m < 9007199254740992) : val double (wordN m) = m * 2 ^ 1074 ∧ 0 < wordN m ∧ wordN m < 9218868437227405312 := by
 obtain ⟨hl, hF, hm⟩ := frac_is h0 h
 obtain ⟨r1, r2⟩ := normal_rung (q := m.log2 + 1023) (F := fracN m) (by omega) hF
 refine ⟨?_, by unfold wordN; omega, by unfold wordN; omega⟩
 obtain ⟨i, hi, vi⟩ := val_mag (wordN m)
 rw [vi, show rmag double (wordN m) = m * 2 ^ (52 - m.log2) by unfold wordN; rw [r1, hm], Nat.mul_assoc, ← Nat.pow_add]
 rw [show rplace double (wordN m) = ((m.log2 + 1023 : Nat) : Int) - 1075 by unfold wordN; rw [r2]] at hi
 rw [show 52 - m.log2 + i = 1074 by omega]
theorem wordN_near {m : Nat} (h0 : 0 < m) (h : m < 9007199254740992) : Near (m * 2 ^ 1074) 1 (wordN m) := by
 obtain ⟨w1, w2, w3⟩ := wordN_rung h0 h
 exact near_self (by omega) w3 (by rw [w1, Nat.mul_one])
theorem near_whole {V V' R R' : Nat} (h : Near (V * 2 ^ 1074) 1 R) (h' : Near (V' * 2 ^ 1074) 1 R') (hle : V ≤ V') : R ≤ R' :=
 near_mono (by omega) (by omega) h h' (by rw [Nat.mul_one, Nat.mul_one]; exact Nat.mul_le_mul_right _ hle)
def mulR (R T : Nat) : Nat := double.nearest false (rmag double R * rmag double T) (rplace double R + rplace double T)
def divR (R T : Nat) : Nat := double.nearest false (2 * (rmag double R <<< (54 + (rmag double T).log2 - (rmag double R).log2) / rmag double T) + (rmag double R <<< (54 + (rmag double T).log2 - (rmag double R).log2) % rmag double T != 0).toNat)
 (rplace double R - rplace double T - ((54 + (rmag double T).log2 - (rmag double R).log2 : Nat) : Int) - 1)
theorem mulR_near {R T a b : Nat} (hR : val double R = a * 2 ^ 1074) (hT : val double T = b * 2 ^ 1074) (hR0 : 0 < R) (hT0 : 0 < T) : Near (a * b * 2 ^ 1074) 1 (mulR R T) := mul_near hR hT hR0 hT0
theorem divR_near {R T a b : Nat} (hR : val double R = a * 2 ^ 1074) (hT : val double T = b * 2 ^ 1074) (hR0 : 0 < R) (hT0 : 0 < T) (hb : 0 < b) : Near (a * 2 ^ 1074) b (divR R T) := div_near hR hT hR0 hT0 hb
theorem whole_le {V R : Nat} (hV : 0 < V) (h : Near (V * 2 ^ 1074) 1 R) (hle : R ≤ 4831355200913801216) : val double R = V * 2 ^ 1074 ∧ 0 < R := by
 have hlt : V < 9007199254740992 := by
  refine Nat.lt_of_not_le fun hge => ?_
  have := near_whole (wordN_near (m := 9007199254740991) (by omega) (by omega)) h (by omega)
  have hw : wordN 9007199254740991 = 4845873199050653695 := by decide +kernel
  omega
 obtain ⟨w1, w2, w3⟩ := wordN_rung hV hlt
 have := near_unique (by omega) h (wordN_near hV hlt)
 rw [this]
 exact ⟨w1, w2⟩
end Go.Proofs.YtjapgpmoojfhnaaGreatDoor.Fl
