/- FromBits at the format double. Rows of limbs of nine digits: what a round of product does with them, and the text of such a row. The numbers of the example: the smallest positive float and the middles beside it. -/
import Derived.Test.YtjapgpmoojfhnaaGreatDoorB01
import Derived.Test.YtjapgpmoojfhnaaGreatDoorB07
import Derived.Test.YtjapgpmoojfhnaaGreatDoorB08
import Derived.Lib.TrimByte
import Derived.Lib.Repeat
namespace Go.Proofs.YtjapgpmoojfhnaaGreatDoor
open Go.RowKit Go.Lib

set_option maxHeartbeats 4000000 in
set_option maxRecDepth 100000 in
theorem frombits64 (b : Nat) (hb : b < 18446744073709551616) (w : World) (hL : Laid w) :
    Calls Tryz.prog 25 #[.int .u64 (b : Int), .int .i64 64] w fun x w' => x = .returned (.tuple #[.string ⟨(Fl.txt (Fl.wideW Ieee.double b)).toArray⟩, .int .i64 0]) ∧ Below w.heap.size w w' := by
  have OF := Lib.hid (fun W hW => of_64 W hW)
  obtain ⟨d1, d2, d3, d4, d5⟩ := Fl.double_is
  have hfm : Fl.Fmt Ieee.double := by unfold Fl.Fmt; simp
  obtain ⟨v1, v2, v3⟩ := Fl.wideW_mod hfm b
  obtain ⟨F, hF⟩ : ∃ F, b % 4503599627370496 = F := ⟨_, rfl⟩
  obtain ⟨Q, hQ⟩ : ∃ Q, b / 4503599627370496 = Q := ⟨_, rfl⟩
  obtain ⟨E, hE⟩ : ∃ E, Q % 2048 = E := ⟨_, rfl⟩
  obtain ⟨r, hr⟩ : ∃ r, b % 9223372036854775808 = r := ⟨_, rfl⟩
  obtain ⟨sb, hsb⟩ : ∃ sb, decide (9223372036854775808 ≤ b) = sb := ⟨_, rfl⟩
  obtain ⟨S, hS⟩ : ∃ S, b / 9223372036854775808 = S := ⟨_, rfl⟩
  rw [d5, hr] at v1
  rw [d5] at v2
  obtain ⟨W0, hW0⟩ : ∃ W0, Fl.wideW Ieee.double b = W0 := ⟨_, rfl⟩
  rw [hW0] at v1 v2 v3 ⊢
  have g1 : bits .and .u64 (b : Int) 4503599627370495 = (F : Int) := by
    have h1 := u64_and_nat b 4503599627370495 (by omega) (by decide)
    have e : b &&& 4503599627370495 = b % 4503599627370496 := Nat.and_two_pow_sub_one_eq_mod b 52
    rw [e, hF] at h1
    exact h1
  have g2 : (b : Int) / 4503599627370496 = (Q : Int) := by omega
  have g3 : bits .and .u64 (Q : Int) 2047 = (E : Int) := by
    have h1 := u64_and_nat Q 2047 (by omega) (by decide)
    have e : Q &&& 2047 = Q % 2048 := Nat.and_two_pow_sub_one_eq_mod Q 11
    rw [e, hE] at h1
    exact h1
  have g4 : ((S : Int) == 1) = sb := by
    rw [← hsb]
    by_cases h : 9223372036854775808 ≤ b
    · rw [decide_eq_true h, beq_iff_eq]; omega
    · rw [decide_eq_false h, beq_eq_false_iff_ne]; omega
  have g5 : (b : Int) / 9223372036854775808 = (S : Int) := by omega
  have hrE : r = E * 4503599627370496 + F := by omega
  have hFb : F < 4503599627370496 := by omega
  have hEb : E < 2048 := by omega
  have HL := Lib.hid hL
  by_cases hnan : 9218868437227405312 < r
  · have ht : Fl.txt W0 = [110, 97, 110] := by
      unfold Fl.txt
      rw [if_pos (by rw [v1, Fl.wide_nan (by rw [d1]; exact hnan)]; decide)]
    rw [ht]
    have k1 : ((E : Int) == 2047) = true := by rw [beq_iff_eq]; omega
    have k2 : ((F : Int) != 0) = true := by rw [bne_iff_ne]; omega
    have k3 : ((F : Int) == 0) = false := by rw [beq_eq_false_iff_ne]; omega
    have hEe : E = 2047 := by omega
    subst hEe
    clear hL d1 d2 d3 d4 d5 hfm v1 v2 v3 hF hQ hE hr hsb hS hW0 hrE hFb hEb hnan ht hb
    go_enter Tryz.func25, Tryz.ntmps25
    go_wp2_with fail
    refine (OF.out _ HL.out).mono ?_
    rintro x w2 ⟨rfl, hb2⟩
    go_upto_region 2 with fail
    obtain ⟨w3, Y, hw3, hY, hb3, hcells⟩ := box_three 64 53 (-1074) w2
    rw [hw3, hY]
    have hc13 := hb2.trans (hb3.mono hb2.size)
    obtain ⟨x0, x1, x2, hd3⟩ := hcells w3 (Below.refl _ _)
    clear hcells hw3 hY hb2 hb3 hd3
    have HB3 := Lib.hid hc13
    clear hc13
    go_wp2_with fail
    go_quiet (fail)
    go_wp2_with fail
    go_ret2
    exact ⟨rfl, below_drewN HB3.out _⟩
  · obtain ⟨R, hR⟩ : ∃ R, Fl.wide Ieee.double r = R := ⟨_, rfl⟩
    have hRW : W0 = R + (if sb = true then 9223372036854775808 else 0) := by
      rw [← hW0, ← hR, ← hr, ← d5, ← hsb]
      unfold Fl.wideW
      rw [d5]
      simp
    have hR63 : R < 9223372036854775808 := by rw [← hR]; exact Fl.wide_lt hfm r
    have TX := Lib.hid (fun W hW => text_any W0 v3 W hW)
    have CS := fun W => copysign_any R 13830554455654793216 W (by omega) (by decide)
    rw [Nat.mod_eq_of_lt hR63, show 13830554455654793216 / 9223372036854775808 * 9223372036854775808 = 9223372036854775808 by decide] at CS
    have IN := Lib.hid (fun W => inf_any 1 W (by decide))
    have CS := Lib.hid CS
    have HRW := Lib.hid hRW
    have HX := Lib.hid (And.intro hrE (And.intro hFb (And.intro hEb (And.intro hnan (And.intro hR (And.intro d1 (And.intro d2 (And.intro d3 (And.intro d4 hfm)))))))))
    clear hL d1 d2 d3 d4 d5 hfm v1 v2 v3 hF hQ hE hr hsb hS hW0 hrE hFb hEb hnan hb hR hRW hR63
    go_enter Tryz.func25, Tryz.ntmps25
    go_wp2_with fail
    refine (OF.out _ HL.out).mono ?_
    rintro x w2 ⟨rfl, hb2⟩
    go_upto_region 2 with fail
    obtain ⟨w3, Y, hw3, hY, hb3, hcells⟩ := box_three 64 53 (-1074) w2
    rw [hw3, hY]
    have hc13 := hb2.trans (hb3.mono hb2.size)
    have hL3 := (HL.out.on hb2).on hb3
    obtain ⟨x0, x1, x2, hd3⟩ := hcells w3 (Below.refl _ _)
    have HC := Lib.hid hcells
    clear hcells hw3 hY hb2 hb3
    have HB3 := Lib.hid hc13
    have HL3 := Lib.hid hL3
    clear hc13 hL3
    go_wp2_with fail
    go_quiet (fail)
    obtain ⟨wq, hwq⟩ : ∃ wq, w3.drewN nq = wq := ⟨_, rfl⟩
    obtain ⟨y0, y1, y2, hdq⟩ := HC.out wq (by rw [← hwq]; exact below_drewN hd3 _)
    have HBq := Lib.hid (show Below w.heap.size w wq by rw [← hwq]; exact below_drewN HB3.out _)
    have HLq := Lib.hid (show Laid wq by rw [← hwq]; exact HL3.out.on (below_drewN (Below.refl _ _) _))
    rw [hwq]
    clear hwq x0 x1 x2 hd3
    go_upto_block 0 with fail
    go_cut [12] (fun s wx => s = .float .f64 R ∧ Below wq.heap.size wq wx)
    case first =>
      obtain ⟨hrE, hFb, hEb, hnan, hR, d1, d2, d3, d4, hfm⟩ := HX.out
      by_cases hi : E = 2047
      · have hF0 : F = 0 := by omega
        have hRv : R = 9218868437227405312 := by rw [← hR, show r = Ieee.Format.infRung Ieee.double by rw [d1]; omega]; exact Fl.wide_inf
        subst hi
        subst hF0
        have HRV := Lib.hid hRv
        clear hrE hFb hEb hnan hR d1 d2 d3 d4 hfm hRv
        go_wp2_with fail
        refine (IN.out _).mono ?_
        rintro x w4 ⟨rfl, rfl⟩
        go_wp2_with fail
        go_meet
        exact ⟨by rw [HRV.out], Below.refl _ _⟩
      · have k1 : ((E : Int) == 2047) = false := by rw [beq_eq_false_iff_ne]; omega
        by_cases h0 : E = 0
        · by_cases hF0 : F = 0
          · have hRv : R = 0 := by rw [← hR, show r = 0 by omega]; exact Fl.wide_zero hfm
            subst h0
            subst hF0
            have HRV := Lib.hid hRv
            have LZ := Lib.hid (fun W => ldexp_zero (-1074) W)
            have cv : floatOfInt FloatKind.f64 0 = 0 := by decide
            clear hrE hFb hEb hnan hR d1 d2 d3 d4 hfm hRv hi
            go_wp2_with fail
            refine (LZ.out _).mono ?_
            rintro x w4 ⟨rfl, rfl⟩
            go_wp2_with fail
            go_meet
            exact ⟨by rw [HRV.out], Below.refl _ _⟩
          · have hrF : r = F := by omega
            obtain ⟨s1, s2, s3⟩ := Fl.wide_is hfm (r := r) (by omega) (by rw [d1]; omega)
            rw [hR] at s1 s2 s3
            have e1 : Fl.rmag Ieee.double r = F := by unfold Fl.rmag; rw [d2, if_pos (by omega)]; exact hrF
            have e2 : Fl.rplace Ieee.double r = -1074 := by unfold Fl.rplace; rw [d2, if_pos (by omega), d3]
            rw [e1, e2] at s3
            have LD := fun W => ldexp_any F (-1074) R W (by omega) (by omega) (by omega) s1 s2 s3
            have cv := cvt_nat F (by omega) (by omega)
            obtain ⟨f0, hf0⟩ : ∃ f0, Fl.wordN F = f0 := ⟨_, rfl⟩
            rw [hf0] at cv LD
            have LD := Lib.hid LD
            subst h0
            clear hrE hFb hEb hnan hR d1 d2 d3 d4 hfm hi hrF s1 s2 s3 e1 e2 hf0 hF0
            go_wp2_with fail
            refine (LD.out _).mono ?_
            rintro x w4 ⟨rfl, rfl⟩
            go_wp2_with fail
            go_meet
            exact ⟨rfl, Below.refl _ _⟩
        · have k2 : ((E : Int) == 0) = false := by rw [beq_eq_false_iff_ne]; omega
          obtain ⟨M, hM⟩ : ∃ M, 4503599627370496 + F = M := ⟨_, rfl⟩
          obtain ⟨p, hp⟩ : ∃ p : Int, -1074 + (E : Int) - 1 = p := ⟨_, rfl⟩
          obtain ⟨s1, s2, s3⟩ := Fl.wide_is hfm (r := r) (by omega) (by rw [d1]; omega)
          rw [hR] at s1 s2 s3
          have hdiv : r / 4503599627370496 = E := by omega
          have hmod : r % 4503599627370496 = F := by omega
          have e1 : Fl.rmag Ieee.double r = M := by unfold Fl.rmag; rw [d2, if_neg (by omega), hmod]; exact hM
          have e2 : Fl.rplace Ieee.double r = p := by unfold Fl.rplace; rw [d2, if_neg (by omega), d3, hdiv]; omega
          rw [e1, e2] at s3
          have LD := fun W => ldexp_any M p R W (by omega) (by omega) (by omega) s1 s2 s3
          have cv := cvt_nat M (by omega) (by omega)
          obtain ⟨f0, hf0⟩ : ∃ f0, Fl.wordN M = f0 := ⟨_, rfl⟩
          rw [hf0] at cv LD
          have LD := Lib.hid LD
          have q1 : bits .or .u64 (F : Int) 4503599627370496 = (M : Int) := by rw [← hM]; exact or_bit F 52 (by decide) (by omega)
          have q1b : bits .or .u64 (F : Int) (IntKind.u64.wrap 4503599627370496) = (M : Int) := q1
          have q2 : IntKind.i64.wrap (E : Int) = (E : Int) := IntWalk.i64_in _ (by omega)
          have q3 : IntKind.i64.wrap (-1074 + (E : Int)) = -1074 + (E : Int) := IntWalk.i64_in _ (by omega)
          have q4 : IntKind.i64.wrap (-1074 + (E : Int) - 1) = p := by rw [hp]; exact IntWalk.i64_in _ (by omega)
          clear hrE hFb hEb hnan hR d1 d2 d3 d4 hfm hi hdiv hmod hM hp s1 s2 s3 e1 e2 hf0 h0
          go_wp2_with fail
          go_region_held3 (fun W => W.cell? ⟨Y, 0, none⟩ = some (.int .i64 64) ∧ W.cell? ⟨Y, 1, none⟩ = some (.int .i64 53) ∧ W.cell? ⟨Y, 2, none⟩ = some (.int .i64 (-1074)) ∧ Below w3.heap.size w3 W)
            ((refine HC.out _ ?_; first | assumption | exact b_drew hdq | exact b_drew (by assumption)))
            (first | (go_at_call 63; refine (LD.out _).mono ?_; rintro x w4 ⟨rfl, rfl⟩))
          go_wp2_with fail
          go_meet
          exact ⟨rfl, b_drew (Below.refl _ _)⟩
    case rest =>
      obtain ⟨rfl, hbx⟩ := hcut
      have hLx := HLq.out.on hbx
      have hbE := HBq.out.trans (hbx.mono HBq.out.size)
      have HBE := Lib.hid hbE
      have HLE := Lib.hid hLx
      clear hbE hLx hbx y0 y1 y2 hdq
      cases sb with
      | true =>
        have e : W0 = R + 9223372036854775808 := by rw [HRW.out, if_pos rfl]
        rw [← e] at CS
        clear e
        go_wp2_with fail
        refine (CS.out _).mono ?_
        rintro x w4 ⟨rfl, rfl⟩
        go_wp2_with fail
        refine (TX.out _ HLE.out).mono ?_
        rintro x w5 ⟨rfl, hb5⟩
        go_wp2_with fail
        go_ret2
        exact ⟨rfl, HBE.out.trans (hb5.mono HBE.out.size)⟩
      | false =>
        have e : W0 = R := by rw [HRW.out, if_neg (by simp)]; rfl
        subst e
        go_wp2_with fail
        refine (TX.out _ HLE.out).mono ?_
        rintro x w5 ⟨rfl, hb5⟩
        go_wp2_with fail
        go_ret2
        exact ⟨rfl, HBE.out.trans (hb5.mono HBE.out.size)⟩
end Go.Proofs.YtjapgpmoojfhnaaGreatDoor

namespace Go.Proofs.YtjapgpmoojfhnaaGreatDoor.Fl
open Go.Lib

/-- The number of a row of limbs, the lowest first. -/
def limbV : List Nat → Nat
  | [] => 0
  | x :: d => x + 1000000000 * limbV d
def Limbs (d : List Nat) : Prop := ∀ x ∈ d, x < 1000000000
/-- One pass: what lies in the row, and what is carried out of it. -/
def passL (b : Nat) : Nat → List Nat → List Nat
  | _, [] => []
  | c, x :: d => (c + x * b) % 1000000000 :: passL b ((c + x * b) / 1000000000) d
def passC (b : Nat) : Nat → List Nat → Nat
  | c, [] => c
  | c, x :: d => passC b ((c + x * b) / 1000000000) d
theorem pass_len (b : Nat) : ∀ (c : Nat) (d : List Nat), (passL b c d).length = d.length
  | _, [] => rfl
  | c, x :: d => by rw [passL, List.length_cons, List.length_cons, pass_len b _ d]
theorem limb_append : ∀ (d e : List Nat), limbV (d ++ e) = limbV d + 1000000000 ^ d.length * limbV e
  | [], e => by simp [limbV]
  | x :: d, e => by
    rw [List.cons_append, limbV, limbV, limb_append d e, List.length_cons, Nat.pow_succ, Nat.mul_add, ← Nat.add_assoc, ← Nat.mul_assoc, Nat.mul_comm 1000000000 (1000000000 ^ d.length)]
theorem pass_val (b : Nat) : ∀ (c : Nat) (d : List Nat), limbV (passL b c d) + 1000000000 ^ d.length * passC b c d = c + b * limbV d
  | c, [] => by simp [passL, passC, limbV]
  | c, x :: d => by
    have ih := pass_val b ((c + x * b) / 1000000000) d
    rw [passL, passC, limbV, limbV, List.length_cons, Nat.pow_succ]
    have e1 : 1000000000 ^ d.length * 1000000000 * passC b ((c + x * b) / 1000000000) d = 1000000000 * (1000000000 ^ d.length * passC b ((c + x * b) / 1000000000) d) := by rw [Nat.mul_comm (1000000000 ^ d.length), Nat.mul_assoc]
    rw [e1]
    have e2 := Nat.div_add_mod (c + x * b) 1000000000
    rw [Nat.mul_add b x, show b * (1000000000 * limbV d) = 1000000000 * (b * limbV d) by rw [← Nat.mul_assoc, Nat.mul_comm b, Nat.mul_assoc], Nat.mul_comm b x]
    generalize 1000000000 ^ d.length * passC b ((c + x * b) / 1000000000) d = Y at *
    generalize b * limbV d = Z at *
    generalize limbV (passL b ((c + x * b) / 1000000000) d) = U at *
    omega
theorem carry_lt {b c x : Nat} (hb : b ≤ 1000000000) (hc : c < 1000000000) (hx : x < 1000000000) : (c + x * b) / 1000000000 < 1000000000 ∧ c + x * b < 1000000000000000000 := by
  have h : x * b ≤ 999999999 * 1000000000 := Nat.mul_le_mul (by omega) hb
  omega
theorem pass_limbs {b : Nat} (hb : b ≤ 1000000000) : ∀ (c : Nat) (d : List Nat), c < 1000000000 → Limbs d → Limbs (passL b c d) ∧ passC b c d < 1000000000
  | c, [], hc, _ => ⟨by intro x hx; simp [passL] at hx, hc⟩
  | c, x :: d, hc, hd => by
    have hx : x < 1000000000 := hd x (by simp)
    obtain ⟨h1, h2⟩ := pass_limbs hb ((c + x * b) / 1000000000) d (carry_lt hb hc hx).1 (fun y hy => hd y (by simp [hy]))
    refine ⟨?_, h2⟩
    intro y hy
    rw [passL] at hy
    rcases List.mem_cons.1 hy with rfl | hy
    · omega
    · exact h1 y hy
/-- A round of the outer loop. -/
def roundL (b : Nat) (d : List Nat) : List Nat := passL b 0 d ++ (if 0 < passC b 0 d then [passC b 0 d] else [])
theorem round_val (b : Nat) (d : List Nat) : limbV (roundL b d) = b * limbV d := by
  have h := pass_val b 0 d
  unfold roundL
  rw [limb_append, pass_len]
  by_cases h0 : 0 < passC b 0 d
  · rw [if_pos h0]
    simp only [limbV, Nat.mul_zero, Nat.add_zero]
    omega
  · have e : passC b 0 d = 0 := by omega
    rw [if_neg h0]
    simp only [limbV]
    rw [e] at h
    omega
theorem round_limbs {b : Nat} (hb : b ≤ 1000000000) {d : List Nat} (hd : Limbs d) : Limbs (roundL b d) ∧ (roundL b d).length ≤ d.length + 1 ∧ d.length ≤ (roundL b d).length := by
  obtain ⟨h1, h2⟩ := pass_limbs hb 0 d (by decide) hd
  unfold roundL
  refine ⟨?_, ?_, ?_⟩
  · intro x hx
    rcases List.mem_append.1 hx with hx | hx
    · exact h1 x hx
    · split at hx
      · simp at hx; omega
      · simp at hx
  · rw [List.length_append, pass_len]
    split <;> simp
  · rw [List.length_append, pass_len]; omega
/-- What the rounds leave: n factors, nine at a time. -/
def prodL (base : Nat) : Nat → List Nat → List Nat
  | 0, d => d
  | n + 1, d => prodL base (n + 1 - min (n + 1) 9) (roundL (base ^ min (n + 1) 9) d)
termination_by n => n
decreasing_by omega
theorem prod_step {base n : Nat} (h : 0 < n) (d : List Nat) : prodL base n d = prodL base (n - min n 9) (roundL (base ^ min n 9) d) := by
  obtain ⟨k, rfl⟩ : ∃ k, n = k + 1 := ⟨n - 1, by omega⟩
  rw [prodL]
theorem prod_val (base : Nat) : ∀ (n : Nat) (d : List Nat), limbV (prodL base n d) = limbV d * base ^ n := by
  intro n
  induction n using Nat.strongRecOn with
  | _ n ih =>
    intro d
    by_cases h : n = 0
    · subst h; rw [prodL]; simp
    · rw [prod_step (by omega), ih _ (by omega), round_val, Nat.mul_comm _ (limbV d), Nat.mul_assoc, ← Nat.pow_add]
      congr 2; omega
theorem base_pow {base k : Nat} (hb : base ≤ 10) (hk : k ≤ 9) : base ^ k ≤ 1000000000 :=
  Nat.le_trans (Nat.pow_le_pow_left hb k) (Nat.le_trans (Nat.pow_le_pow_right (by decide) hk) (by decide))
theorem prod_limbs {base : Nat} (hb : base ≤ 10) : ∀ (n : Nat) (d : List Nat), Limbs d → Limbs (prodL base n d) ∧ (prodL base n d).length ≤ d.length + n := by
  intro n
  induction n using Nat.strongRecOn with
  | _ n ih =>
    intro d hd
    by_cases h : n = 0
    · subst h; rw [prodL]; exact ⟨hd, by omega⟩
    · rw [prod_step (by omega)]
      obtain ⟨h1, h2, _⟩ := round_limbs (base_pow hb (Nat.min_le_right n 9)) hd
      obtain ⟨h3, h4⟩ := ih (n - min n 9) (by omega) _ h1
      exact ⟨h3, by omega⟩
/-- The lowest k digits of a number, the lowest first. -/
def fixL : Nat → Nat → List Nat
  | 0, _ => []
  | k + 1, u => u % 10 :: fixL k (u / 10)
theorem fix_len : ∀ k u, (fixL k u).length = k
  | 0, _ => rfl
  | k + 1, u => by rw [fixL, List.length_cons, fix_len k]
theorem fix_add : ∀ (k l u : Nat), fixL (k + l) u = fixL k u ++ fixL l (u / 10 ^ k)
  | 0, l, u => by simp [fixL]
  | k + 1, l, u => by
    rw [show k + 1 + l = (k + l) + 1 by omega, fixL, fixL, fix_add k l (u / 10), List.cons_append, Nat.div_div_eq_div_mul, Nat.pow_succ, Nat.mul_comm 10]
theorem fix_mod : ∀ (k u v : Nat), fixL k (u + 10 ^ k * v) = fixL k u
  | 0, _, _ => rfl
  | k + 1, u, v => by
    have e : 10 ^ (k + 1) * v = 10 * (10 ^ k * v) := by rw [Nat.pow_succ, Nat.mul_comm (10 ^ k), Nat.mul_assoc]
    rw [fixL, fixL, e]
    congr 1
    · omega
    · rw [show (u + 10 * (10 ^ k * v)) / 10 = u / 10 + 10 ^ k * v by omega]
      exact fix_mod k _ _
theorem fix_dig : ∀ (k u : Nat), u < 10 ^ k → fixL k u = digL u ++ List.replicate (k - (digL u).length) 0 ∧ (digL u).length ≤ k
  | 0, u, h => by
    have : u = 0 := by simpa using h
    subst this
    rw [digL_zero]
    exact ⟨rfl, by simp⟩
  | k + 1, u, h => by
    have h2 : u / 10 < 10 ^ k := by rw [Nat.div_lt_iff_lt_mul (by decide), ← Nat.pow_succ]; exact h
    obtain ⟨a1, a2⟩ := fix_dig k (u / 10) h2
    by_cases h0 : u = 0
    · subst h0
      rw [digL_zero] at *
      have e : fixL k 0 = List.replicate k 0 := by simpa using a1
      rw [fixL, Nat.zero_div, e]
      exact ⟨by simp [List.replicate_succ], by simp⟩
    · rw [digL_pos h0, fixL, a1]
      exact ⟨by simp, by simp; exact a2⟩
theorem fix_limb : ∀ (d : List Nat), Limbs d → fixL (9 * d.length) (limbV d) = (d.map (fixL 9)).flatten ∧ limbV d < 10 ^ (9 * d.length)
  | [], _ => ⟨rfl, by simp [limbV]⟩
  | x :: d, h => by
    have hx : x < 1000000000 := h x (by simp)
    obtain ⟨h1, h2⟩ := fix_limb d (fun y hy => h y (by simp [hy]))
    rw [List.length_cons, show 9 * (d.length + 1) = 9 + 9 * d.length by omega, limbV, fix_add, List.map_cons, List.flatten_cons]
    have e : (10 : Nat) ^ 9 = 1000000000 := by decide
    refine ⟨?_, ?_⟩
    · have h3 := fix_mod 9 x (limbV d)
      rw [e] at h3
      rw [h3, e, show (x + 1000000000 * limbV d) / 1000000000 = limbV d by omega, h1]
    · rw [Nat.pow_add, e]
      generalize 10 ^ (9 * d.length) = Y at *
      omega
def digB8 (l : List Nat) : List UInt8 := l.map fun x => UInt8.ofNat (48 + x)
/-- The text of a limb with its leading zeros. -/
def pad9 (x : Nat) : List UInt8 := repeatL [48] (9 - (decDigits x).length) ++ decDigits x
theorem repeat_one : ∀ n, repeatL [48] n = List.replicate n (48 : UInt8)
  | 0 => rfl
  | n + 1 => by rw [repeatL, repeat_one n]; rfl
theorem dec_is {u : Nat} (h : u ≠ 0) : decDigits u = digB8 (digL u).reverse := (digL_facts h).2.2.2.2
theorem pad_is {x : Nat} (h : x < 1000000000) : pad9 x = digB8 (fixL 9 x).reverse ∧ (decDigits x).length ≤ 9 := by
  obtain ⟨h1, h2⟩ := fix_dig 9 x (by rw [show (10 : Nat) ^ 9 = 1000000000 by decide]; exact h)
  unfold pad9
  rw [repeat_one]
  by_cases h0 : x = 0
  · subst h0
    have e : decDigits 0 = [48] := by rw [decDigits_one (by decide)]; rfl
    rw [e]
    exact ⟨by decide, by decide⟩
  · have e := dec_is h0
    have el : (decDigits x).length = (digL x).length := by rw [e]; simp [digB8]
    rw [el, h1, e]
    refine ⟨?_, h2⟩
    simp [digB8]
/-- The text of a row of limbs. -/
def limbB (d : List Nat) : List UInt8 := (d.reverse.map pad9).flatten
theorem limbB_is {d : List Nat} (h : Limbs d) : limbB d = digB8 (fixL (9 * d.length) (limbV d)).reverse := by
  rw [(fix_limb d h).1]
  induction d with
  | nil => rfl
  | cons x d ih =>
    have h2 := ih (fun y hy => h y (by simp [hy]))
    unfold limbB at h2 ⊢
    rw [List.reverse_cons, List.map_append, List.flatten_append, h2]
    simp [digB8, (pad_is (h x (by simp))).1]
theorem trim_limb {d : List Nat} (h : Limbs d) (h0 : limbV d ≠ 0) : trimLeftB (limbB d) 48 = decDigits (limbV d) := by
  obtain ⟨h1, h2⟩ := fix_dig (9 * d.length) (limbV d) (fix_limb d h).2
  obtain ⟨b1, _, b3, ⟨t, b4, b5⟩, _⟩ := digL_facts h0
  rw [limbB_is h, dec_is h0, h1]
  have e : digB8 (digL (limbV d) ++ List.replicate (9 * d.length - (digL (limbV d)).length) 0).reverse = List.replicate (9 * d.length - (digL (limbV d)).length) (48 : UInt8) ++ digB8 (digL (limbV d)).reverse := by
    simp [digB8]
  rw [e]
  have hd : ∃ y l, digB8 (digL (limbV d)).reverse = y :: l ∧ y ≠ 48 := by
    have hr : (digL (limbV d)).reverse[0]? = some t := by rw [List.getElem?_reverse (by omega)]; exact b4
    have ht : t < 10 := b3 t (List.mem_of_getElem? b4)
    cases hl : (digL (limbV d)).reverse with
    | nil => rw [hl] at hr; simp at hr
    | cons y l =>
      rw [hl] at hr
      simp at hr
      subst hr
      refine ⟨_, _, rfl, ?_⟩
      intro he
      have := congrArg UInt8.toNat he
      rw [Dc.dig_toNat ht] at this
      have : (48 : UInt8).toNat = 48 := rfl
      omega
  obtain ⟨y, l, hy, hy48⟩ := hd
  rw [hy]
  generalize 9 * d.length - (digL (limbV d)).length = n
  unfold trimLeftB
  induction n with
  | zero => simp [hy48]
  | succ n ih => rw [List.replicate_succ, List.cons_append, List.dropWhile_cons_of_pos (by rfl)]; exact ih
/-- The first row. -/
def firstL (m : Nat) : List Nat := [m % 1000000000, m / 1000000000 % 1000000000, m / 1000000000 / 1000000000]
theorem first_val (m : Nat) : limbV (firstL m) = m := by
  unfold firstL
  simp only [limbV]
  omega
theorem first_limbs {m : Nat} (h : m < 18446744073709551616) : Limbs (firstL m) := by
  intro x hx
  simp only [firstL, List.mem_cons, List.not_mem_nil, or_false] at hx
  omega
end Go.Proofs.YtjapgpmoojfhnaaGreatDoor.Fl

namespace Go.Proofs.YtjapgpmoojfhnaaGreatDoor.Fl
open Go.Lib

theorem dec_split : ∀ (k u : Nat), 10 ^ k ≤ u → decDigits u = decDigits (u / 10 ^ k) ++ digB8 (fixL k u).reverse
  | 0, u, _ => by simp [fixL, digB8]
  | k + 1, u, h => by
    have h1 : 10 ^ k ≤ u / 10 := by rw [Nat.le_div_iff_mul_le (by decide), ← Nat.pow_succ]; exact h
    have hp : 0 < 10 ^ k := Nat.pow_pos (n := k) (show 0 < 10 by decide)
    have ih := dec_split k (u / 10) h1
    rw [decDigits, dif_neg (by omega), ih, fixL, Nat.div_div_eq_div_mul, Nat.pow_succ, Nat.mul_comm 10]
    simp [digB8]
def exV : Nat := 4 * 5 ^ 1076
def exLo : Nat := 2 * 5 ^ 1076
def exHi : Nat := 6 * 5 ^ 1076
def exT : Nat := 10 ^ 751
theorem ex_facts : (decide (exT ≤ exV) && decide (exT ≤ exLo) && decide (exT ≤ exHi) && exV / exT == 49 && exLo / exT == 24 && exHi / exT == 74) = true := by kernel_rfl
theorem ex_of : exT ≤ exV ∧ exT ≤ exLo ∧ exT ≤ exHi ∧ exV / exT = 49 ∧ exLo / exT = 24 ∧ exHi / exT = 74 := by
  have h := ex_facts
  simp only [Bool.and_eq_true, decide_eq_true_eq, beq_iff_eq] at h
  obtain ⟨⟨⟨⟨⟨h1, h2⟩, h3⟩, h4⟩, h5⟩, h6⟩ := h
  exact ⟨h1, h2, h3, h4, h5, h6⟩
theorem dec_two {a : Nat} (h0 : 10 ≤ a) (h : a < 100) : decDigits a = [UInt8.ofNat (48 + a / 10), UInt8.ofNat (48 + a % 10)] := by
  rw [decDigits, dif_neg (by omega), decDigits, dif_pos (by omega)]
  rfl
theorem ex_head {u a : Nat} (h : exT ≤ u) (ha : u / exT = a) (h0 : 10 ≤ a) (h1 : a < 100) : ∃ l, decDigits u = UInt8.ofNat (48 + a / 10) :: UInt8.ofNat (48 + a % 10) :: l ∧ l.length = 751 := by
  obtain ⟨K, hK⟩ : ∃ K, K = 751 := ⟨_, rfl⟩
  unfold exT at h ha
  rw [← hK] at h ha ⊢
  have e := dec_split K u h
  rw [ha, dec_two h0 h1] at e
  exact ⟨_, e, by simp [digB8, fix_len]⟩
/-- The texts of the example. -/
theorem ex_texts : ∃ v lo hi : List UInt8, decDigits exV = 52 :: 57 :: v ∧ decDigits exLo = 50 :: 52 :: lo ∧ decDigits exHi = 55 :: 52 :: hi ∧ v.length = 751 ∧ lo.length = 751 ∧ hi.length = 751 := by
  obtain ⟨h1, h2, h3, h4, h5, h6⟩ := ex_of
  obtain ⟨v, a1, a2⟩ := ex_head h1 h4 (by decide) (by decide)
  obtain ⟨lo, b1, b2⟩ := ex_head h2 h5 (by decide) (by decide)
  obtain ⟨hi, c1, c2⟩ := ex_head h3 h6 (by decide) (by decide)
  exact ⟨v, lo, hi, a1, b1, c1, a2, b2, c2⟩
theorem ex_pow {K : Nat} (h : K = 1076) : 4 * 5 ^ K = exV ∧ 2 * 5 ^ K = exLo ∧ 6 * 5 ^ K = exHi := by
  subst h
  unfold exV exLo exHi
  exact ⟨rfl, rfl, rfl⟩
end Go.Proofs.YtjapgpmoojfhnaaGreatDoor.Fl
