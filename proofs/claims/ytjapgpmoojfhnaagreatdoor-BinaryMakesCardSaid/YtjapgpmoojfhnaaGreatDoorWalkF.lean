/- The canonical text of a float. -/
import Derived.Test.YtjapgpmoojfhnaaGreatDoorWalkE
namespace Go.Proofs.YtjapgpmoojfhnaaGreatDoor
open Go.RowKit Go.Lib

namespace Fl
def sgB (b : Nat) : List UInt8 := if 9223372036854775808 ≤ b then [45] else []
/-- The canonical text of a number that is not zero. -/
def numB (r : Nat) : List UInt8 := decDigits (rmag Ieee.double r / 2 ^ tzN (rmag Ieee.double r)) ++ 112 :: itoa (rplace Ieee.double r + (tzN (rmag Ieee.double r) : Nat))
/-- The canonical text of a word. -/
def txt (b : Nat) : List UInt8 :=
  if 9218868437227405312 < b % 9223372036854775808 then [110, 97, 110] else
  if b % 9223372036854775808 = 9218868437227405312 then sgB b ++ [105, 110, 102] else
  if b % 9223372036854775808 = 0 then sgB b ++ [48, 112, 48] else sgB b ++ numB (b % 9223372036854775808)
end Fl
theorem word_split {b : Nat} (hb : b < 18446744073709551616) : b = Ieee.double.word (decide (9223372036854775808 ≤ b)) (b % 9223372036854775808) := by
  unfold Ieee.Format.word
  rw [sign_weight]
  by_cases h : 9223372036854775808 ≤ b
  · rw [decide_eq_true h, if_pos rfl]; omega
  · rw [decide_eq_false h, if_neg (by simp)]; omega
theorem read_fin {b : Nat} (hb : b < 18446744073709551616) (hr : b % 9223372036854775808 < 9218868437227405312) : Ieee.double.read b = .number (decide (9223372036854775808 ≤ b)) (Fl.rmag Ieee.double (b % 9223372036854775808)) (Fl.rplace Ieee.double (b % 9223372036854775808)) := by
  have h := Fl.read_rung Ieee.double (decide (9223372036854775808 ≤ b)) (r := b % 9223372036854775808) (by rw [inf_rung]; exact hr)
  rw [← word_split hb] at h
  exact h
theorem read_inf' {b : Nat} (hb : b < 18446744073709551616) (hr : b % 9223372036854775808 = 9218868437227405312) : Ieee.double.read b = .infinity (decide (9223372036854775808 ≤ b)) := by
  have e : b = 9218868437227405312 ∨ b = 18442240474082181120 := by omega
  rcases e with rfl | rfl
  · decide
  · decide
theorem read_nan' {b : Nat} (hr : 9218868437227405312 < b % 9223372036854775808) : ∃ g t, Ieee.double.read b = .nan g t := by
  unfold Ieee.Format.read
  simp only [inf_rung, sign_weight, binade_is]
  rw [if_neg (by omega), if_neg (by omega), if_neg (by omega)]
  exact ⟨_, _, rfl⟩
theorem sval_inj {n m : Bool} {r s : Nat} (h : r ≠ 0) (hh : Fl.sval Ieee.double n r = Fl.sval Ieee.double m s) : r = s ∧ n = m := by
  have h0 : 0 < Fl.val Ieee.double r := by
    have := Fl.val_lt (f := Ieee.double) (r := 0) (s := r) (by omega)
    omega
  unfold Fl.sval at hh
  have hrs : Fl.val Ieee.double r = Fl.val Ieee.double s ∧ n = m := by
    cases n <;> cases m <;> simp at hh <;> first | exact ⟨by omega, rfl⟩ | omega
  refine ⟨?_, hrs.2⟩
  rcases Nat.lt_trichotomy r s with h1 | h1 | h1
  · have := Fl.val_lt (f := Ieee.double) h1; omega
  · exact h1
  · have := Fl.val_lt (f := Ieee.double) h1; omega
theorem ord_self {b : Nat} (hb : b < 18446744073709551616) : (FloatKind.f64.format.order b b != some Ordering.eq) = decide (9218868437227405312 < b % 9223372036854775808) := by
  show (Ieee.Datum.order (Ieee.double.read b) (Ieee.double.read b) != some Ordering.eq) = _
  rcases Nat.lt_trichotomy (b % 9223372036854775808) 9218868437227405312 with h | h | h
  · rw [read_fin hb h, Fl.order_rungs, Int.compare_eq_eq.2 rfl, decide_eq_false (by omega)]
    rfl
  · rw [read_inf' hb h, show decide (9218868437227405312 < b % 9223372036854775808) = false from decide_eq_false (by omega)]
    show ((some (compare (decide (9223372036854775808 ≤ b)).toNat (decide (9223372036854775808 ≤ b)).toNat)) != some Ordering.eq) = false
    rw [Nat.compare_eq_eq.2 rfl]
    rfl
  · obtain ⟨g, t, e⟩ := read_nan' h
    rw [e, decide_eq_true h]
    rfl
theorem ord_zero {b : Nat} (hb : b < 18446744073709551616) (hr : b % 9223372036854775808 < 9218868437227405312) : (FloatKind.f64.format.order b 0 == some Ordering.eq) = decide (b % 9223372036854775808 = 0) := by
  show (Ieee.Datum.order (Ieee.double.read b) (Ieee.double.read 0) == some Ordering.eq) = _
  rw [read_fin hb hr, read_num 0 (by decide), Fl.order_rungs]
  by_cases h : b % 9223372036854775808 = 0
  · rw [decide_eq_true h, h]
    have e : ∀ n, Fl.sval Ieee.double n 0 = 0 := fun n => by cases n <;> simp [Fl.sval, Fl.val_zero]
    rw [e, e, Int.compare_eq_eq.2 rfl]
    rfl
  · rw [decide_eq_false h, beq_eq_false_iff_ne]
    intro hh
    have h1 := Int.compare_eq_eq.1 (Option.some.inj hh)
    exact h (sval_inj h h1).1
set_option maxHeartbeats 1000000 in
set_option maxRecDepth 100000 in
theorem text_any (b : Nat) (hb : b < 18446744073709551616) (w : World) (hL : Laid w) : Calls Tryz.prog 57 #[.float .f64 b] w fun x w' => x = .returned (.string ⟨(Fl.txt b).toArray⟩) ∧ Below w.heap.size w w' := by
  have SB := Lib.hid (fun W => signbit_any b W hb)
  have II := Lib.hid (fun W => isinf_any b W hb)
  have h1 := ord_self hb
  obtain ⟨r, hr⟩ : ∃ r, b % 9223372036854775808 = r := ⟨_, rfl⟩
  obtain ⟨sb, hsb⟩ : ∃ sb, decide (9223372036854775808 ≤ b) = sb := ⟨_, rfl⟩
  obtain ⟨S, hS⟩ : ∃ S : ByteArray, ⟨(Fl.sgB b).toArray⟩ = S := ⟨_, rfl⟩
  have hS' : S = if sb = true then ⟨#[45]⟩ else ⟨#[]⟩ := by
    rw [← hS, ← hsb, Fl.sgB]
    by_cases h : 9223372036854775808 ≤ b
    · rw [if_pos h, if_pos (decide_eq_true h)]
    · rw [if_neg h, if_neg (by rw [decide_eq_false h]; simp)]
  have hSz : S.size ≤ 1 := by rw [hS']; split <;> decide
  rw [hsb] at SB
  rw [hr] at II h1
  obtain ⟨T, hT⟩ : ∃ T : ByteArray, ⟨(Fl.txt b).toArray⟩ = T := ⟨_, rfl⟩
  have hT' : T = ⟨(if 9218868437227405312 < r then [110, 97, 110] else if r = 9218868437227405312 then Fl.sgB b ++ [105, 110, 102] else if r = 0 then Fl.sgB b ++ [48, 112, 48] else Fl.sgB b ++ Fl.numB r).toArray⟩ := by rw [← hT, Fl.txt, hr]
  rw [hT]
  have HS := Lib.hid hS'
  have HSS := Lib.hid hS
  have HT := Lib.hid hT'
  have HL := Lib.hid hL
  have HR := Lib.hid hr
  have HB := Lib.hid hb
  clear hS' hS hT' hT hL hr hb hsb
  go_enter Tryz.func57, Tryz.ntmps57
  go_wp2_with fail
  refine (SB.out _).mono ?_
  rintro x w1 ⟨rfl, rfl⟩
  go_upto_if 7 with fail
  go_cut [3] (fun s wx => s = .string S ∧ wx = w1)
  case first =>
    cases sb with
    | true =>
      have e := HS.out
      rw [if_pos rfl] at e
      have E := Lib.hid e
      clear e
      go_wp2_with fail
      go_meet
      exact ⟨by rw [E.out], rfl⟩
    | false =>
      have e := HS.out
      rw [if_neg (by simp)] at e
      have E := Lib.hid e
      clear e
      go_wp2_with fail
      go_meet
      exact ⟨by rw [E.out], rfl⟩
  case rest =>
    obtain ⟨rfl, hw⟩ := hcut
    subst hw
    obtain ⟨w2, hw2⟩ : ∃ W, W = wc := ⟨_, rfl⟩
    subst hw2
    rcases Nat.lt_trichotomy r 9218868437227405312 with h | h | h
    · have c1 : decide (9218868437227405312 < r) = false := decide_eq_false (by omega)
      have c2 : (r == 9218868437227405312) = false := by rw [beq_eq_false_iff_ne]; omega
      have c3 := ord_zero HB.out (by rw [HR.out]; exact h)
      rw [c1] at h1
      rw [c2] at II
      rw [HR.out] at c3
      have t := HT.out
      rw [if_neg (by omega), if_neg (by omega)] at t
      by_cases h0 : r = 0
      · rw [decide_eq_true h0] at c3
        rw [if_pos h0] at t
        have HTT := Lib.hid t
        have hadd1 := fun W => run_string_add_sum (P := Tryz.prog) (w := W) S ⟨#[48, 112, 48]⟩ (by show S.size + 3 ≤ _; omega)
        clear t c1 c2 h h0
        go_wp2_with fail
        refine (II.out _).mono ?_
        rintro x w3 ⟨rfl, rfl⟩
        go_wp2_with fail
        go_ret
        refine ⟨?_, Below.refl _ _⟩
        rw [HTT.out, ← str_append, HSS.out]
        rfl
      · rw [decide_eq_false h0] at c3
        rw [if_neg h0] at t
        have SP := Lib.hid (fun W hW => split_any b W HB.out (by rw [HR.out]; omega) (by rw [HR.out]; exact h) hW)
        rw [HR.out] at SP
        have hM0 : 0 < Fl.rmag Ieee.double r := Fl.rmag_pos (by omega)
        have hM2 : Fl.rmag Ieee.double r < 9007199254740992 := Fl.rmag_lt Ieee.double r
        have hz : tzN (Fl.rmag Ieee.double r) < 64 := by obtain ⟨_, _, h⟩ := tz_spec hM0 (by omega); exact h
        have hpb : -1074 ≤ Fl.rplace Ieee.double r ∧ Fl.rplace Ieee.double r ≤ 1000 := by
          unfold Fl.rplace
          rw [Fl.d_binade, Fl.d_least]
          split
          · omega
          · omega
        rw [Fl.numB] at t
        obtain ⟨m, hm⟩ : ∃ m, Fl.rmag Ieee.double r / 2 ^ tzN (Fl.rmag Ieee.double r) = m := ⟨_, rfl⟩
        obtain ⟨e, he⟩ : ∃ e, Fl.rplace Ieee.double r + (tzN (Fl.rmag Ieee.double r) : Nat) = e := ⟨_, rfl⟩
        have hm1 : 1 ≤ m := by
          obtain ⟨k, h1, _⟩ := tz_spec hM0 (by omega)
          rw [← hm]
          refine (Nat.one_le_div_iff (Nat.two_pow_pos _)).2 ?_
          have := Nat.le_mul_of_pos_right (2 ^ tzN (Fl.rmag Ieee.double r)) (show 0 < 2 * k + 1 by omega)
          omega
        have hm64 : m < 18446744073709551616 := by rw [← hm]; have := Nat.div_le_self (Fl.rmag Ieee.double r) (2 ^ tzN (Fl.rmag Ieee.double r)); omega
        rw [hm, he] at t SP
        have FU := Lib.hid (fun W hW => formatUint_any m hm64 W hW)
        have IT := Lib.hid (fun W hW => itoa_any e (by omega) (by omega) W hW)
        obtain ⟨D, hD⟩ : ∃ D : ByteArray, ⟨(decDigits m).toArray⟩ = D := ⟨_, rfl⟩
        obtain ⟨I, hI⟩ : ∃ I : ByteArray, ⟨(itoa e).toArray⟩ = I := ⟨_, rfl⟩
        have hDs : D.size ≤ 20 := by
          rw [← hD]
          show (decDigits m).length ≤ 20
          rw [Lib.decDigits_length]
          have := Lib.numDigits_eq m hm1 hm64
          split at this <;> omega
        have hIs : I.size ≤ 5 := by
          rw [← hI]
          exact Dc.itoa_len (by omega) (by omega)
        have hadd1 := fun W => run_string_add_sum (P := Tryz.prog) (w := W) S D (by omega)
        have hadd2 := fun W => run_string_add_sum (P := Tryz.prog) (w := W) (S ++ D) ⟨#[112]⟩ (by rw [ByteArray.size_append]; show S.size + D.size + 1 ≤ _; omega)
        have hadd3 := fun W => run_string_add_sum (P := Tryz.prog) (w := W) (S ++ D ++ ⟨#[112]⟩) I (by rw [ByteArray.size_append, ByteArray.size_append]; show S.size + D.size + 1 + I.size ≤ _; omega)
        rw [hD] at FU
        rw [hI] at IT
        have HTT := Lib.hid t
        have HDI := Lib.hid (And.intro hD hI)
        clear t c1 c2 h h0 hM0 hM2 hz hpb hm he hm64 hm1 hD hI hDs hIs
        go_wp2_with fail
        refine (II.out _).mono ?_
        rintro x w3 ⟨rfl, rfl⟩
        go_wp2_with fail
        refine (SP.out _ HL.out).mono ?_
        rintro x w4 ⟨rfl, rfl⟩
        go_wp2_with fail
        refine (FU.out _ HL.out).mono ?_
        rintro x w5 ⟨rfl, hb5⟩
        go_wp2_with fail
        refine (IT.out _ (HL.out.on hb5)).mono ?_
        rintro x w6 ⟨rfl, hb6⟩
        go_wp2_with fail
        go_ret
        refine ⟨?_, hb5.trans (hb6.mono hb5.size)⟩
        have e1 : (⟨#[112]⟩ : ByteArray) = ⟨([112] : List UInt8).toArray⟩ := rfl
        rw [HTT.out, ← HSS.out, ← HDI.out.1, ← HDI.out.2, e1, str_append, str_append, str_append]
        simp
    · have c1 : decide (9218868437227405312 < r) = false := decide_eq_false (by omega)
      have c2 : (r == 9218868437227405312) = true := by rw [beq_iff_eq]; exact h
      rw [c1] at h1
      rw [c2] at II
      have t := HT.out
      rw [if_neg (by omega), if_pos h] at t
      have HTT := Lib.hid t
      have hadd1 := fun W => run_string_add_sum (P := Tryz.prog) (w := W) S ⟨#[105, 110, 102]⟩ (by show S.size + 3 ≤ _; omega)
      clear t c1 c2 h
      go_wp2_with fail
      refine (II.out _).mono ?_
      rintro x w3 ⟨rfl, rfl⟩
      go_wp2_with fail
      go_ret
      refine ⟨?_, Below.refl _ _⟩
      rw [HTT.out, ← str_append, HSS.out]
      rfl
    · have c1 : decide (9218868437227405312 < r) = true := decide_eq_true h
      rw [c1] at h1
      have t := HT.out
      rw [if_pos h] at t
      have HTT := Lib.hid t
      clear t c1 h
      go_wp2_with fail
      go_ret
      refine ⟨?_, Below.refl _ _⟩
      rw [HTT.out]
      rfl
end Go.Proofs.YtjapgpmoojfhnaaGreatDoor
