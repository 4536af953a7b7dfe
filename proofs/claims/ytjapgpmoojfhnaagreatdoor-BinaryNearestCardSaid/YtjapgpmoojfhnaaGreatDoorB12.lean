/- The canonical text of a float. Canonical texts of floats, read. fits, and parse at canonical texts. parse at every canonical text. Cmp at canonical texts. -/
import Derived.Test.YtjapgpmoojfhnaaGreatDoorB11
import Derived.Lib.ParseIntBCases
import Derived.Lib.BitFns
import Derived.Lib.IndexMore
set_option maxHeartbeats 16000000
set_option maxRecDepth 100000
set_option linter.unusedSimpArgs false
set_option linter.unusedVariables false
namespace Go.Proofs.YtjapgpmoojfhnaaGreatDoor
open Go.RowKit Go.Lib
namespace Fl
def sgB (b : Nat) : List UInt8 := if 9223372036854775808 ≤ b then [45] else []
def numB (r : Nat) : List UInt8 := decDigits (rmag Ieee.double r / 2 ^ tzN (rmag Ieee.double r)) ++ 112 :: itoa (rplace Ieee.double r + (tzN (rmag Ieee.double r) : Nat))
def txt (b : Nat) : List UInt8 :=
 if 9218868437227405312 < b % 9223372036854775808 then [110, 97, 110] else
 if b % 9223372036854775808 = 9218868437227405312 then sgB b ++ [105, 110, 102] else
 if b % 9223372036854775808 = 0 then sgB b ++ [48, 112, 48] else sgB b ++ numB (b % 9223372036854775808)
end Fl
theorem word_split {b : Nat} (hb : b < 18446744073709551616) : b = Ieee.double.word (decide (9223372036854775808 ≤ b)) (b % 9223372036854775808) := by
 unfold Ieee.Format.word
 rw [sign_weight]
 by_cases h : 9223372036854775808 ≤ b
 · rw [decide_eq_true h, if_pos rfl]; omega
 · rw [decide_eq_false h, if_neg (by simp)]; omega
theorem read_fin {b : Nat} (hb : b < 18446744073709551616) (hr : b % 9223372036854775808 < 9218868437227405312) : Ieee.double.read b = .number (decide (9223372036854775808 ≤ b)) (Fl.rmag Ieee.double (b % 9223372036854775808)) (Fl.rplace Ieee.double (b % 9223372036854775808)) := by
 have h := Fl.read_rung Ieee.double (decide (9223372036854775808 ≤ b)) (r := b % 9223372036854775808) (by rw [inf_rung]; exact hr)
 rw [← word_split hb] at h
 exact h
theorem read_inf' {b : Nat} (hb : b < 18446744073709551616) (hr : b % 9223372036854775808 = 9218868437227405312) : Ieee.double.read b = .infinity (decide (9223372036854775808 ≤ b)) := by
 have e : b = 9218868437227405312 ∨ b = 18442240474082181120 := by omega
 rcases e with rfl | rfl
 · decide
 · decide
theorem read_nan' {b : Nat} (hr : 9218868437227405312 < b % 9223372036854775808) : ∃ g t, Ieee.double.read b = .nan g t := by
 unfold Ieee.Format.read
 simp only [inf_rung, sign_weight, binade_is]
 rw [if_neg (by omega), if_neg (by omega), if_neg (by omega)]
 exact ⟨_, _, rfl⟩
theorem sval_inj {n m : Bool} {r s : Nat} (h : r ≠ 0) (hh : Fl.sval Ieee.double n r = Fl.sval Ieee.double m s) : r = s ∧ n = m := by
 have h0 : 0 < Fl.val Ieee.double r := by
  have := Fl.val_lt (f := Ieee.double) (r := 0) (s := r) (by omega)
  omega
 unfold Fl.sval at hh
 have hrs : Fl.val Ieee.double r = Fl.val Ieee.double s ∧ n = m := by
  cases n <;> cases m <;> simp at hh <;> first | exact ⟨by omega, rfl⟩ | omega
 refine ⟨?_, hrs.2⟩
 rcases Nat.lt_trichotomy r s with h1 | h1 | h1
 · have := Fl.val_lt (f := Ieee.double) h1; omega
 · exact h1
 · have := Fl.val_lt (f := Ieee.double) h1; omega
theorem ord_self {b : Nat} (hb : b < 18446744073709551616) : (FloatKind.f64.format.order b b != some Ordering.eq) = decide (9218868437227405312 < b % 9223372036854775808) := by
 show (Ieee.Datum.order (Ieee.double.read b) (Ieee.double.read b) != some Ordering.eq) = _
 rcases Nat.lt_trichotomy (b % 9223372036854775808) 9218868437227405312 with h | h | h
 · rw [read_fin hb h, Fl.order_rungs, Int.compare_eq_eq.2 rfl, decide_eq_false (by omega)]
   rfl
 · rw [read_inf' hb h, show decide (9218868437227405312 < b % 9223372036854775808) = false from decide_eq_false (by omega)]
   show ((some (compare (decide (9223372036854775808 ≤ b)).toNat (decide (9223372036854775808 ≤ b)).toNat)) != some Ordering.eq) = false
   rw [Nat.compare_eq_eq.2 rfl]
   rfl
 · obtain ⟨g, t, e⟩ := read_nan' h
   rw [e, decide_eq_true h]
   rfl
theorem ord_zero {b : Nat} (hb : b < 18446744073709551616) (hr : b % 9223372036854775808 < 9218868437227405312) : (FloatKind.f64.format.order b 0 == some Ordering.eq) = decide (b % 9223372036854775808 = 0) := by
 show (Ieee.Datum.order (Ieee.double.read b) (Ieee.double.read 0) == some Ordering.eq) = _
 rw [read_fin hb hr, read_num 0 (by decide), Fl.order_rungs]
 by_cases h : b % 9223372036854775808 = 0
 · rw [decide_eq_true h, h]
   have e : ∀ n, Fl.sval Ieee.double n 0 = 0 := fun n => by cases n <;> simp [Fl.sval, Fl.val_zero]
   rw [e, e, Int.compare_eq_eq.2 rfl]
   rfl
 · rw [decide_eq_false h, beq_eq_false_iff_ne]
   intro hh
   have h1 := Int.compare_eq_eq.1 (Option.some.inj hh)
   exact h (sval_inj h h1).1
theorem text_any (b : Nat) (hb : b < 18446744073709551616) (w : World) (hL : Laid w) : Calls Tryz.prog 57 #[.float .f64 b] w fun x w' => x = .returned (.string ⟨(Fl.txt b).toArray⟩) ∧ Below w.heap.size w w' := by
 have SB := Lib.hid (fun W => signbit_any b W hb)
 have II := Lib.hid (fun W => isinf_any b W hb)
 have h1 := ord_self hb
 obtain ⟨r, hr⟩ : ∃ r, b % 9223372036854775808 = r := ⟨_, rfl⟩
 obtain ⟨sb, hsb⟩ : ∃ sb, decide (9223372036854775808 ≤ b) = sb := ⟨_, rfl⟩
 obtain ⟨S, hS⟩ : ∃ S : ByteArray, ⟨(Fl.sgB b).toArray⟩ = S := ⟨_, rfl⟩
 have hS' : S = if sb = true then ⟨#[45]⟩ else ⟨#[]⟩ := by
  rw [← hS, ← hsb, Fl.sgB]
  by_cases h : 9223372036854775808 ≤ b
  · rw [if_pos h, if_pos (decide_eq_true h)]
  · rw [if_neg h, if_neg (by rw [decide_eq_false h]; simp)]
 have hSz : S.size ≤ 1 := by rw [hS']; split <;> decide
 rw [hsb] at SB
 rw [hr] at II h1
 obtain ⟨T, hT⟩ : ∃ T : ByteArray, ⟨(Fl.txt b).toArray⟩ = T := ⟨_, rfl⟩
 have hT' : T = ⟨(if 9218868437227405312 < r then [110, 97, 110] else if r = 9218868437227405312 then Fl.sgB b ++ [105, 110, 102] else if r = 0 then Fl.sgB b ++ [48, 112, 48] else Fl.sgB b ++ Fl.numB r).toArray⟩ := by rw [← hT, Fl.txt, hr]
 rw [hT]
 have HS := Lib.hid hS'
 have HSS := Lib.hid hS
 have HT := Lib.hid hT'
 have HL := Lib.hid hL
 have HR := Lib.hid hr
 have HB := Lib.hid hb
 clear hS' hS hT' hT hL hr hb hsb
 go_enter Tryz.func57, Tryz.ntmps57
 go_wp2_with fail
 refine (SB.out _).mono ?_
 rintro x w1 ⟨rfl, rfl⟩
 go_upto_if 7 with fail
 go_cut [3] (fun s wx => s = .string S ∧ wx = w1)
 case first =>
  cases sb with
  | true =>
    have e := HS.out
    rw [if_pos rfl] at e
    have E := Lib.hid e
    clear e
    go_wp2_with fail
    go_meet
    exact ⟨by rw [E.out], rfl⟩
  | false =>
    have e := HS.out
    rw [if_neg (by simp)] at e
    have E := Lib.hid e
    clear e
    go_wp2_with fail
    go_meet
    exact ⟨by rw [E.out], rfl⟩
 case rest =>
  obtain ⟨rfl, hw⟩ := hcut
  subst hw
  obtain ⟨w2, hw2⟩ : ∃ W, W = wc := ⟨_, rfl⟩
  subst hw2
  rcases Nat.lt_trichotomy r 9218868437227405312 with h | h | h
  · have c1 : decide (9218868437227405312 < r) = false := decide_eq_false (by omega)
    have c2 : (r == 9218868437227405312) = false := by rw [beq_eq_false_iff_ne]; omega
    have c3 := ord_zero HB.out (by rw [HR.out]; exact h)
    rw [c1] at h1
    rw [c2] at II
    rw [HR.out] at c3
    have t := HT.out
    rw [if_neg (by omega), if_neg (by omega)] at t
    by_cases h0 : r = 0
    · rw [decide_eq_true h0] at c3
      rw [if_pos h0] at t
      have HTT := Lib.hid t
      have hadd1 := fun W => run_string_add_sum (P := Tryz.prog) (w := W) S ⟨#[48, 112, 48]⟩ (by show S.size + 3 ≤ _; omega)
      clear t c1 c2 h h0
      go_wp2_with fail
      refine (II.out _).mono ?_
      rintro x w3 ⟨rfl, rfl⟩
      go_wp2_with fail
      go_ret
      refine ⟨?_, Below.refl _ _⟩
      rw [HTT.out, ← str_append, HSS.out]
      rfl
    · rw [decide_eq_false h0] at c3
      rw [if_neg h0] at t
      have SP := Lib.hid (fun W hW => split_any b W HB.out (by rw [HR.out]; omega) (by rw [HR.out]; exact h) hW)
      rw [HR.out] at SP
      have hM0 : 0 < Fl.rmag Ieee.double r := Fl.rmag_pos (by omega)
      have hM2 : Fl.rmag Ieee.double r < 9007199254740992 := Fl.rmag_lt Ieee.double r
      have hz : tzN (Fl.rmag Ieee.double r) < 64 := by obtain ⟨_, _, h⟩ := tz_spec hM0 (by omega); exact h
      have hpb : -1074 ≤ Fl.rplace Ieee.double r ∧ Fl.rplace Ieee.double r ≤ 1000 := by
       unfold Fl.rplace
       rw [Fl.d_binade, Fl.d_least]
       split
       · omega
       · omega
      rw [Fl.numB] at t
      obtain ⟨m, hm⟩ : ∃ m, Fl.rmag Ieee.double r / 2 ^ tzN (Fl.rmag Ieee.double r) = m := ⟨_, rfl⟩
      obtain ⟨e, he⟩ : ∃ e, Fl.rplace Ieee.double r + (tzN (Fl.rmag Ieee.double r) : Nat) = e := ⟨_, rfl⟩
      have hm1 : 1 ≤ m := by
       obtain ⟨k, h1, _⟩ := tz_spec hM0 (by omega)
       rw [← hm]
       refine (Nat.one_le_div_iff (Nat.two_pow_pos _)).2 ?_
       have := Nat.le_mul_of_pos_right (2 ^ tzN (Fl.rmag Ieee.double r)) (show 0 < 2 * k + 1 by omega)
       omega
      have hm64 : m < 18446744073709551616 := by rw [← hm]; have := Nat.div_le_self (Fl.rmag Ieee.double r) (2 ^ tzN (Fl.rmag Ieee.double r)); omega
      rw [hm, he] at t SP
      have FU := Lib.hid (fun W hW => formatUint_any m hm64 W hW)
      have IT := Lib.hid (fun W hW => itoa_any e (by omega) (by omega) W hW)
      obtain ⟨D, hD⟩ : ∃ D : ByteArray, ⟨(decDigits m).toArray⟩ = D := ⟨_, rfl⟩
      obtain ⟨I, hI⟩ : ∃ I : ByteArray, ⟨(itoa e).toArray⟩ = I := ⟨_, rfl⟩
      have hDs : D.size ≤ 20 := by
       rw [← hD]
       show (decDigits m).length ≤ 20
       rw [Lib.decDigits_length]
       have := Lib.numDigits_eq m hm1 hm64
       split at this <;> omega
      have hIs : I.size ≤ 5 := by
       rw [← hI]
       exact Dc.itoa_len (by omega) (by omega)
      have hadd1 := fun W => run_string_add_sum (P := Tryz.prog) (w := W) S D (by omega)
      have hadd2 := fun W => run_string_add_sum (P := Tryz.prog) (w := W) (S ++ D) ⟨#[112]⟩ (by rw [ByteArray.size_append]; show S.size + D.size + 1 ≤ _; omega)
      have hadd3 := fun W => run_string_add_sum (P := Tryz.prog) (w := W) (S ++ D ++ ⟨#[112]⟩) I (by rw [ByteArray.size_append, ByteArray.size_append]; show S.size + D.size + 1 + I.size ≤ _; omega)
      rw [hD] at FU
      rw [hI] at IT
      have HTT := Lib.hid t
      have HDI := Lib.hid (And.intro hD hI)
      clear t c1 c2 h h0 hM0 hM2 hz hpb hm he hm64 hm1 hD hI hDs hIs
      go_wp2_with fail
      refine (II.out _).mono ?_
      rintro x w3 ⟨rfl, rfl⟩
      go_wp2_with fail
      refine (SP.out _ HL.out).mono ?_
      rintro x w4 ⟨rfl, rfl⟩
      go_wp2_with fail
      refine (FU.out _ HL.out).mono ?_
      rintro x w5 ⟨rfl, hb5⟩
      go_wp2_with fail
      refine (IT.out _ (HL.out.on hb5)).mono ?_
      rintro x w6 ⟨rfl, hb6⟩
      go_wp2_with fail
      go_ret
      refine ⟨?_, hb5.trans (hb6.mono hb5.size)⟩
      have e1 : (⟨#[112]⟩ : ByteArray) = ⟨([112] : List UInt8).toArray⟩ := rfl
      rw [HTT.out, ← HSS.out, ← HDI.out.1, ← HDI.out.2, e1, str_append, str_append, str_append]
      simp
  · have c1 : decide (9218868437227405312 < r) = false := decide_eq_false (by omega)
    have c2 : (r == 9218868437227405312) = true := by rw [beq_iff_eq]; exact h
    rw [c1] at h1
    rw [c2] at II
    have t := HT.out
    rw [if_neg (by omega), if_pos h] at t
    have HTT := Lib.hid t
    have hadd1 := fun W => run_string_add_sum (P := Tryz.prog) (w := W) S ⟨#[105, 110, 102]⟩ (by show S.size + 3 ≤ _; omega)
    clear t c1 c2 h
    go_wp2_with fail
    refine (II.out _).mono ?_
    rintro x w3 ⟨rfl, rfl⟩
    go_wp2_with fail
    go_ret
    refine ⟨?_, Below.refl _ _⟩
    rw [HTT.out, ← str_append, HSS.out]
    rfl
  · have c1 : decide (9218868437227405312 < r) = true := decide_eq_true h
    rw [c1] at h1
    have t := HT.out
    rw [if_pos h] at t
    have HTT := Lib.hid t
    clear t c1 h
    go_wp2_with fail
    go_ret
    refine ⟨?_, Below.refl _ _⟩
    rw [HTT.out]
    rfl
end Go.Proofs.YtjapgpmoojfhnaaGreatDoor
namespace Go.Proofs.YtjapgpmoojfhnaaGreatDoor.Fl
open Go Go.Lib
theorem bitLen_log2 (m : Nat) (h0 : m ≠ 0) (h : m < 18446744073709551616) : Lib.bitLen m = m.log2 + 1 := by
 induction m using Nat.strongRecOn with
 | _ m ih =>
   rw [Lib.bitLen_half m h0 h]
   by_cases h2 : m = 1
   · subst h2; decide
   · have e : m.log2 = (m / 2).log2 + 1 := by
      rw [Nat.log2_def m, if_pos (by omega)]
     rw [ih (m / 2) (by omega) (by omega) (by omega), e]
     omega
def om (r : Nat) : Nat := rmag Ieee.double r / 2 ^ tzN (rmag Ieee.double r)
def oe (r : Nat) : Int := rplace Ieee.double r + (tzN (rmag Ieee.double r) : Nat)
theorem om_spec {r : Nat} (h0 : 0 < r) : rmag Ieee.double r = om r * 2 ^ tzN (rmag Ieee.double r) ∧ om r % 2 = 1 ∧ 0 < om r ∧ om r < 9007199254740992 := by
 have hM0 : 0 < rmag Ieee.double r := rmag_pos h0
 have hM2 : rmag Ieee.double r < 9007199254740992 := rmag_lt Ieee.double r
 obtain ⟨k, h1, h2⟩ := tz_spec hM0 (by omega)
 have e : om r = 2 * k + 1 := by
  unfold om
  generalize tzN (rmag Ieee.double r) = z at *
  rw [h1]
  exact Nat.mul_div_cancel_left _ (Nat.two_pow_pos _)
 refine ⟨by rw [e, Nat.mul_comm]; exact h1, by omega, by omega, ?_⟩
 have := Nat.div_le_self (rmag Ieee.double r) (2 ^ tzN (rmag Ieee.double r))
 unfold om
 omega
theorem om_same {r : Nat} (h0 : 0 < r) : Same (om r) (oe r) (rmag Ieee.double r) (rplace Ieee.double r) := Or.inr ⟨tzN (rmag Ieee.double r), (om_spec h0).1, rfl⟩
theorem om_bounds {r : Nat} (h0 : 0 < r) (hr : r < 9218868437227405312) : (om r).log2 ≤ 52 ∧ -1074 ≤ oe r ∧ oe r ≤ 1023 ∧ oe r + ((om r).log2 + 1 : Nat) ≤ 1024 := by
 obtain ⟨_, _, h3, h4⟩ := om_spec h0
 have a := same_place h3 h0 (om_same h0)
 obtain ⟨b1, b2, _⟩ := rung_bounds h0 hr
 have hl : (om r).log2 < 53 := (Nat.log2_lt (by omega)).2 h4
 have hp : -1074 ≤ oe r := by
  have := place_ge Ieee.double r
  rw [d_least] at this
  unfold oe
  omega
 generalize ((rmag Ieee.double r).log2 : Int) = x at a b1 b2
 generalize rplace Ieee.double r = y at a b1 b2
 omega
theorem numB_is (r : Nat) : numB r = decDigits (om r) ++ 112 :: itoa (oe r) := rfl
theorem dec_ne_nil (u : Nat) : decDigits u ≠ [] := Dc.dec_ne u
theorem uint_dec {u : Nat} (h : u < 9007199254740992) : parseUintB 64 (decDigits u) = .ok u := by
 rw [parseUintB_64]
 unfold parseMag
 have h1 := Dc.parse_dec u (by omega)
 have h2 := dec_ne_nil u
 cases hd : decDigits u with
 | nil => exact absurd hd h2
 | cons c l => rw [hd] at h1; exact h1
theorem index_one : ∀ {l : List UInt8} {c : UInt8} {r : List UInt8}, (∀ b ∈ l, b ≠ c) → index (l ++ c :: r) [c] = (l.length : Int)
 | [], c, r, _ => by
   rw [List.nil_append, index]
   simp
 | b :: l, c, r, h => by
   have ih := index_one (l := l) (c := c) (r := r) (fun x hx => h x (by simp [hx]))
   have hb : b ≠ c := h b (by simp)
   rw [List.cons_append, index, ih]
   have e : ([c].isPrefixOf (b :: (l ++ c :: r))) = false := by
    simp [List.isPrefixOf]
    exact fun he => hb he.symm
   rw [e]
   simp
theorem cut_num (r : Nat) : cut (numB r) [112] = (decDigits (om r), itoa (oe r), true) := by
 have hb : ∀ b ∈ decDigits (om r), b ≠ (112 : UInt8) := fun b hb he => by
  have := Dc.dec_mem (om r) b hb
  rw [he] at this
  exact absurd this.2 (by decide)
 unfold cut
 rw [numB_is, index_one hb, if_pos (by omega)]
 simp
theorem not_minus (r : Nat) : (numB r).head? ≠ some 45 := by
 intro h
 rw [numB_is] at h
 cases hd : decDigits (om r) with
 | nil => exact dec_ne_nil _ hd
 | cons c l =>
   rw [hd] at h
   have := Dc.dec_mem (om r) c (by rw [hd]; simp)
   simp at h
   rw [h] at this
   exact absurd this.1 (by decide)
end Go.Proofs.YtjapgpmoojfhnaaGreatDoor.Fl
namespace Go.Proofs.YtjapgpmoojfhnaaGreatDoor
open Go.RowKit Go.Lib
theorem fits_true (m : Nat) (e : Int) (w : World) (h0 : 0 < m) (hm : m < 9007199254740992) (hodd : m % 2 = 1) (hl : m.log2 ≤ 52) (h1 : -1074 ≤ e) (h2 : e ≤ 1023) (h3 : e + (m.log2 + 1 : Nat) ≤ 1024) :
 Calls Tryz.prog 83 #[.int .u64 (m : Int), .int .i64 e] w fun x w' => x = .returned (.bool true) ∧ w' = w := by
 obtain ⟨L, hL⟩ : ∃ L, m.log2 + 1 = L := ⟨_, rfl⟩
 have LN := Lib.hid (fun W => Tryz.bits_Len64 (m : Int) W (by omega) (by omega))
 have hbl : Lib.bitLen (m : Int).toNat = L := by rw [Int.toNat_natCast, Fl.bitLen_log2 m (by omega) (by omega), hL]
 rw [hbl] at LN
 rw [hL] at h3
 have g1 : (m : Int) % 2 = 1 := by omega
 have g2 : Int.tmod (m : Int) 2 = 1 := by rw [Int.tmod_eq_emod_of_nonneg (by omega)]; exact g1
 have c1 : decide ((L : Int) ≤ 53) = true := decide_eq_true (by omega)
 have c2 : decide ((-1074 : Int) ≤ e) = true := decide_eq_true h1
 have c3 : decide (e ≤ 1023) = true := decide_eq_true h2
 have g3 : IntKind.i64.wrap (e + (L : Int)) = e + (L : Int) := IntWalk.i64_in _ (by omega)
 have c4 : decide (e + (L : Int) ≤ 1024) = true := decide_eq_true h3
 clear h0 hm hodd hl h1 h2 h3 hL hbl
 go_enter Tryz.func83, Tryz.ntmps83
 go_wp2_with fail
 refine (LN.out _).mono ?_
 rintro x w1 ⟨rfl, rfl⟩
 go_wp2_with fail
 go_ret
 exact ⟨rfl, rfl⟩
theorem pre_minus (X : List UInt8) : Lib.trimPrefix (45 :: X) [45] = X ∧ Lib.hasPrefix (45 :: X) [45] = true := by
 have h : Lib.hasPrefix (45 :: X) [45] = true := by simp [Lib.hasPrefix, List.isPrefixOf]
 exact ⟨by rw [Lib.trimPrefix, if_pos h]; rfl, h⟩
theorem pre_none {X : List UInt8} (hX : X.head? ≠ some 45) : Lib.trimPrefix X [45] = X ∧ Lib.hasPrefix X [45] = false := by
 have h : Lib.hasPrefix X [45] = false := by
  cases X with
  | nil => rfl
  | cons c l =>
    simp only [List.head?_cons, ne_eq, Option.some.injEq] at hX
    simp only [Lib.hasPrefix, List.isPrefixOf, Bool.and_eq_false_iff]
    left
    rw [beq_eq_false_iff_ne]
    exact fun he => hX he.symm
 exact ⟨by rw [Lib.trimPrefix, if_neg (by rw [h]; simp)], h⟩
theorem pre_txt {b : Nat} {X : List UInt8} (hX : X.head? ≠ some 45) : Lib.trimPrefix (Fl.sgB b ++ X) [45] = X ∧ Lib.hasPrefix (Fl.sgB b ++ X) [45] = decide (9223372036854775808 ≤ b) := by
 unfold Fl.sgB
 by_cases h : 9223372036854775808 ≤ b
 · rw [if_pos h, decide_eq_true h]; exact pre_minus X
 · rw [if_neg h, decide_eq_false h]; exact pre_none hX
theorem num_head (r : Nat) : ∃ c l, Fl.numB r = c :: l ∧ 48 ≤ c.toNat ∧ c.toNat ≤ 57 := by
 rw [Fl.numB_is]
 cases hd : decDigits (Fl.om r) with
 | nil => exact absurd hd (Fl.dec_ne_nil _)
 | cons c l => exact ⟨c, _, rfl, Dc.dec_mem (Fl.om r) c (by rw [hd]; simp)⟩
theorem num_ne (r : Nat) : Fl.numB r ≠ [105, 110, 102] := by
 obtain ⟨c, l, h, h1, h2⟩ := num_head r
 rw [h]
 intro he
 cases he
 exact absurd h2 (by decide)
theorem num_ne_nan (b r : Nat) : Fl.sgB b ++ Fl.numB r ≠ [110, 97, 110] := by
 obtain ⟨c, l, h, h1, h2⟩ := num_head r
 rw [h]
 unfold Fl.sgB
 split
 · intro he; cases he
 · intro he
   cases he
   exact absurd h2 (by decide)
theorem num_ne_zero {r : Nat} (h0 : 0 < r) : Fl.numB r ≠ [48, 112, 48] := by
 intro he
 have h1 := Fl.cut_num r
 rw [he] at h1
 have h2 : Lib.cut [48, 112, 48] [112] = ([48], [48], true) := by decide
 rw [h2] at h1
 have h3 : decDigits (Fl.om r) = [48] := (congrArg Prod.fst h1).symm
 have h4 := Fl.uint_dec (Fl.om_spec h0).2.2.2
 rw [h3] at h4
 have h5 : Lib.parseUintB 64 [48] = .ok 0 := by decide
 rw [h5] at h4
 injection h4 with h6
 have := (Fl.om_spec h0).2.2.1
 omega
theorem ba_list {l m : List UInt8} (h : l ≠ m) : ((⟨l.toArray⟩ : ByteArray).toList == m) = false := by
 rw [beq_eq_false_iff_ne]
 intro he
 rw [Lib.toList_data] at he
 exact h he
theorem parse_num (b : Nat) (hb : b < 18446744073709551616) (w : World) (h0 : 0 < b % 9223372036854775808) (hr : b % 9223372036854775808 < 9218868437227405312) (hL : Laid w) :
 Calls Tryz.prog 58 #[.string ⟨(Fl.txt b).toArray⟩] w fun x w' => x = .returned (.tuple #[.float .f64 b, .bool true]) ∧ Below w.heap.size w w' := by
 obtain ⟨r, hrr⟩ : ∃ r, b % 9223372036854775808 = r := ⟨_, rfl⟩
 rw [hrr] at h0 hr
 have ht : Fl.txt b = Fl.sgB b ++ Fl.numB r := by rw [Fl.txt, hrr, if_neg (by omega), if_neg (by omega), if_neg (by omega)]
 obtain ⟨p1, p2⟩ := pre_txt (b := b) (Fl.not_minus r)
 obtain ⟨S, hS⟩ : ∃ S : ByteArray, ⟨(Fl.txt b).toArray⟩ = S := ⟨_, rfl⟩
 obtain ⟨X, hX⟩ : ∃ X : ByteArray, ⟨(Fl.numB r).toArray⟩ = X := ⟨_, rfl⟩
 obtain ⟨sb, hsb⟩ : ∃ sb, decide (9223372036854775808 ≤ b) = sb := ⟨_, rfl⟩
 have CP : ∀ W, Calls Tryz.prog 102 #[.string S, .string ⟨#[45]⟩] W fun e w' => e = .returned (.tuple #[.string X, .bool sb]) ∧ w' = W := fun W => by
  have h := Tryz.strings_CutPrefix S ⟨#[45]⟩ W
  have e1 : S.data.toList = Fl.sgB b ++ Fl.numB r := by rw [← hS, ← ht]
  rw [e1, show (⟨#[45]⟩ : ByteArray).data.toList = [45] from rfl, p1, p2, hX, hsb] at h
  exact h
 have n1 : (S.toList == [110, 97, 110]) = false := by rw [← hS, ht]; exact ba_list (m := [110, 97, 110]) (num_ne_nan b r)
 have n2 : (X.toList == [105, 110, 102]) = false := by rw [← hX]; exact ba_list (m := [105, 110, 102]) (num_ne r)
 have n3 : (X.toList == [48, 112, 48]) = false := by rw [← hX]; exact ba_list (m := [48, 112, 48]) (num_ne_zero h0)
 obtain ⟨a1, a2, a3, a4⟩ := Fl.om_spec h0
 obtain ⟨b1, b2, b3, b4⟩ := Fl.om_bounds h0 hr
 have hsame := Fl.om_same h0
 have hcut := Fl.cut_num r
 have hup := Fl.uint_dec a4
 obtain ⟨m, hm⟩ : ∃ m, Fl.om r = m := ⟨_, rfl⟩
 obtain ⟨e, he⟩ : ∃ e, Fl.oe r = e := ⟨_, rfl⟩
 have hnum := Fl.numB_is r
 rw [hm, he] at hnum hcut hsame b4
 rw [hm] at a2 a3 a4 b1 hup
 rw [he] at b2 b3
 obtain ⟨A, hA⟩ : ∃ A : ByteArray, ⟨(decDigits m).toArray⟩ = A := ⟨_, rfl⟩
 obtain ⟨B, hB⟩ : ∃ B : ByteArray, ⟨(itoa e).toArray⟩ = B := ⟨_, rfl⟩
 have hAs : A.size ≤ 20 := by
  rw [← hA]
  show (decDigits m).length ≤ 20
  rw [Lib.decDigits_length]
  have := Lib.numDigits_eq m a3 (by omega)
  split at this <;> omega
 have hBs : B.size ≤ 5 := by rw [← hB]; exact Dc.itoa_len (by omega) (by omega)
 have hXs : X.size ≤ 30 := by
  rw [← hX]
  show (Fl.numB r).length ≤ 30
  rw [hnum, List.length_append, List.length_cons]
  have e1 : (decDigits m).length = A.size := by rw [← hA]; rfl
  have e2 : (itoa e).length = B.size := by rw [← hB]; rfl
  omega
 have CU : ∀ W, Laid W → Calls Tryz.prog 48 #[.string X, .string ⟨#[112]⟩] W fun x w' => x = .returned (.tuple #[.string A, .string B, .bool true]) ∧ Below W.heap.size W w' := fun W hW => by
  obtain ⟨mm, hmm⟩ := hW.2.2.2.2.2.1
  have h := Tryz.strings_Cut X ⟨#[112]⟩ mm W (by omega) hmm
  have e1 : X.data.toList = Fl.numB r := by rw [← hX]
  rw [e1, show (⟨#[112]⟩ : ByteArray).data.toList = [112] from rfl, hcut, hA, hB] at h
  refine h.mono ?_
  rintro x w' ⟨rfl, n, rfl⟩
  exact ⟨rfl, below_drewN (Below.refl _ _) n⟩
 have PU := fun W => uint_ok A (by omega) m (by rw [← hA]; exact hup) W
 have AT := fun W => atoi_ok B (by omega) e (by rw [← hB]; exact Dc.atoi_itoa (by omega) (by omega)) W
 have FI := fun W => fits_true m e W a3 a4 a2 b1 b2 b3 b4
 have LD := fun W => ldexp_any m e r W a3 a4 (by omega) h0 hr hsame
 have hcvt : floatOfInt FloatKind.f64 (m : Int) = Fl.wordN m := by
  have h := Fl.nearest_nat a3 a4
  change Ieee.double.nearest (decide ((m : Int) < 0)) (m : Int).natAbs 0 = _
  rw [show decide ((m : Int) < 0) = false from decide_eq_false (by omega), Int.natAbs_natCast]
  exact h
 have TX := fun W hW => text_any r (by omega) W hW
 have hTX : (⟨(Fl.txt r).toArray⟩ : ByteArray) = X := by
  have h2 : r % 9223372036854775808 = r := Nat.mod_eq_of_lt (by omega)
  rw [Fl.txt, h2, if_neg (by omega), if_neg (by omega), if_neg (by omega), Fl.sgB, if_neg (by omega), List.nil_append, hX]
 rw [hTX] at TX
 have CS := fun W => copysign_any r 13830554455654793216 W (by omega) (by decide)
 obtain ⟨f0, hf0⟩ : ∃ f0, Fl.wordN m = f0 := ⟨_, rfl⟩
 rw [hf0] at LD hcvt
 have hcs : r % 9223372036854775808 + 13830554455654793216 / 9223372036854775808 * 9223372036854775808 = r + 9223372036854775808 := by omega
 rw [hcs] at CS
 have hbs : (sb = true → r + 9223372036854775808 = b) ∧ (sb = false → r = b) := by
  rw [← hsb]
  refine ⟨fun h => ?_, fun h => ?_⟩
  · have := of_decide_eq_true h; omega
  · have := of_decide_eq_false h; omega
 have CP := Lib.hid CP
 have CU := Lib.hid CU
 have PU := Lib.hid PU
 have AT := Lib.hid AT
 have FI := Lib.hid FI
 have LD := Lib.hid LD
 have TX := Lib.hid TX
 have CS := Lib.hid CS
 have HBS := Lib.hid hbs
 have HL := Lib.hid hL
 rw [hS]
 clear hf0 hcs hTX hAs hBs hXs hA hB hX hS hm he hnum hcut hsame hup a1 a2 a3 a4 b1 b2 b3 b4 hbs hL p1 p2 ht hrr h0 hr hsb hb
 go_enter Tryz.func58, Tryz.ntmps58
 go_wp2_with fail
 refine (CP.out _).mono ?_
 rintro x w1 ⟨rfl, rfl⟩
 go_wp2_with fail
 refine (CU.out _ HL.out).mono ?_
 rintro x w2 ⟨rfl, hb2⟩
 go_wp2_with fail
 refine (PU.out _).mono ?_
 rintro x w3 ⟨rfl, hb3⟩
 have hb3 := hb2.trans (hb3.mono hb2.size)
 go_wp2_with fail
 refine (AT.out _).mono ?_
 rintro x w4 ⟨rfl, hb4⟩
 have hb4 := hb3.trans (hb4.mono hb3.size)
 go_wp2_with fail
 refine (FI.out _).mono ?_
 rintro x w5 ⟨rfl, rfl⟩
 go_wp2_with fail
 refine (LD.out _).mono ?_
 rintro x w6 ⟨rfl, rfl⟩
 go_wp2_with fail
 refine (TX.out _ (HL.out.on hb4)).mono ?_
 rintro x w7 ⟨rfl, hb7⟩
 have hb7 := hb4.trans (hb7.mono hb4.size)
 have n4 : (X.toList != X.toList) = false := by simp
 cases sb with
 | true =>
   have E := Lib.hid (HBS.out.1 rfl)
   go_wp2_with fail
   refine (CS.out _).mono ?_
   rintro x w8 ⟨rfl, rfl⟩
   rw [E.out]
   go_wp2_with fail
   go_ret2
   exact ⟨rfl, hb7⟩
 | false =>
   have E := Lib.hid (HBS.out.2 rfl)
   go_wp2_with fail
   go_ret2
   exact ⟨by rw [E.out]; rfl, hb7⟩
def Fl.canonW (b : Nat) : Nat := if 9218868437227405312 < b % 9223372036854775808 then 9221120237041090561 else b
theorem parse_zero (b : Nat) (hb : b < 18446744073709551616) (w : World) (h0 : b % 9223372036854775808 = 0) :
 Calls Tryz.prog 58 #[.string ⟨(Fl.txt b).toArray⟩] w fun x w' => x = .returned (.tuple #[.float .f64 b, .bool true]) ∧ Below w.heap.size w w' := by
 have ht : Fl.txt b = Fl.sgB b ++ [48, 112, 48] := by rw [Fl.txt, h0]; rfl
 obtain ⟨p1, p2⟩ := pre_txt (b := b) (X := [48, 112, 48]) (by decide)
 obtain ⟨S, hS⟩ : ∃ S : ByteArray, ⟨(Fl.txt b).toArray⟩ = S := ⟨_, rfl⟩
 obtain ⟨sb, hsb⟩ : ∃ sb, decide (9223372036854775808 ≤ b) = sb := ⟨_, rfl⟩
 have CP : ∀ W, Calls Tryz.prog 102 #[.string S, .string ⟨#[45]⟩] W fun e w' => e = .returned (.tuple #[.string ⟨#[48, 112, 48]⟩, .bool sb]) ∧ w' = W := fun W => by
  have h := Tryz.strings_CutPrefix S ⟨#[45]⟩ W
  have e1 : S.data.toList = Fl.sgB b ++ [48, 112, 48] := by rw [← hS, ← ht]
  rw [e1, show (⟨#[45]⟩ : ByteArray).data.toList = [45] from rfl, p1, p2, hsb] at h
  exact h
 have n1 : (S.toList == [110, 97, 110]) = false := by
  rw [← hS, ht]
  refine ba_list (m := [110, 97, 110]) ?_
  unfold Fl.sgB
  split <;> decide
 have CS := fun W => copysign_any 0 13830554455654793216 W (by omega) (by decide)
 have hbs : (sb = true → 9223372036854775808 = b) ∧ (sb = false → 0 = b) := by
  rw [← hsb]
  refine ⟨fun h => ?_, fun h => ?_⟩
  · have := of_decide_eq_true h; omega
  · have := of_decide_eq_false h; omega
 have CP := Lib.hid CP
 have CS := Lib.hid CS
 have HBS := Lib.hid hbs
 rw [hS]
 clear hS hbs p1 p2 ht h0 hsb hb
 go_enter Tryz.func58, Tryz.ntmps58
 go_wp2_with fail
 refine (CP.out _).mono ?_
 rintro x w1 ⟨rfl, rfl⟩
 cases sb with
 | true =>
   have E := Lib.hid (HBS.out.1 rfl)
   go_wp2_with fail
   refine (CS.out _).mono ?_
   rintro x w8 ⟨rfl, rfl⟩
   go_wp2_with fail
   go_ret2
   exact ⟨by rw [← E.out]; rfl, Below.refl _ _⟩
 | false =>
   have E := Lib.hid (HBS.out.2 rfl)
   go_wp2_with fail
   go_ret2
   exact ⟨by rw [← E.out]; rfl, Below.refl _ _⟩
theorem parse_inf (b : Nat) (hb : b < 18446744073709551616) (w : World) (h0 : b % 9223372036854775808 = 9218868437227405312) :
 Calls Tryz.prog 58 #[.string ⟨(Fl.txt b).toArray⟩] w fun x w' => x = .returned (.tuple #[.float .f64 b, .bool true]) ∧ Below w.heap.size w w' := by
 have ht : Fl.txt b = Fl.sgB b ++ [105, 110, 102] := by rw [Fl.txt, h0]; rfl
 obtain ⟨p1, p2⟩ := pre_txt (b := b) (X := [105, 110, 102]) (by decide)
 obtain ⟨S, hS⟩ : ∃ S : ByteArray, ⟨(Fl.txt b).toArray⟩ = S := ⟨_, rfl⟩
 obtain ⟨sb, hsb⟩ : ∃ sb, decide (9223372036854775808 ≤ b) = sb := ⟨_, rfl⟩
 have CP : ∀ W, Calls Tryz.prog 102 #[.string S, .string ⟨#[45]⟩] W fun e w' => e = .returned (.tuple #[.string ⟨#[105, 110, 102]⟩, .bool sb]) ∧ w' = W := fun W => by
  have h := Tryz.strings_CutPrefix S ⟨#[45]⟩ W
  have e1 : S.data.toList = Fl.sgB b ++ [105, 110, 102] := by rw [← hS, ← ht]
  rw [e1, show (⟨#[45]⟩ : ByteArray).data.toList = [45] from rfl, p1, p2, hsb] at h
  exact h
 have n1 : (S.toList == [110, 97, 110]) = false := by
  rw [← hS, ht]
  refine ba_list (m := [110, 97, 110]) ?_
  unfold Fl.sgB
  split <;> decide
 have IN := fun W => inf_any 1 W (by decide)
 have CS := fun W => copysign_any 9218868437227405312 13830554455654793216 W (by omega) (by decide)
 have hbs : (sb = true → 18442240474082181120 = b) ∧ (sb = false → 9218868437227405312 = b) := by
  rw [← hsb]
  refine ⟨fun h => ?_, fun h => ?_⟩
  · have := of_decide_eq_true h; omega
  · have := of_decide_eq_false h; omega
 have CP := Lib.hid CP
 have CS := Lib.hid CS
 have IN := Lib.hid IN
 have HBS := Lib.hid hbs
 rw [hS]
 clear hS hbs p1 p2 ht h0 hsb hb
 go_enter Tryz.func58, Tryz.ntmps58
 go_wp2_with fail
 refine (CP.out _).mono ?_
 rintro x w1 ⟨rfl, rfl⟩
 go_wp2_with fail
 refine (IN.out _).mono ?_
 rintro x w2 ⟨rfl, rfl⟩
 cases sb with
 | true =>
   have E := Lib.hid (HBS.out.1 rfl)
   go_wp2_with fail
   refine (CS.out _).mono ?_
   rintro x w8 ⟨rfl, rfl⟩
   go_wp2_with fail
   go_ret2
   exact ⟨by rw [← E.out]; rfl, Below.refl _ _⟩
 | false =>
   have E := Lib.hid (HBS.out.2 rfl)
   go_wp2_with fail
   go_ret2
   exact ⟨by rw [← E.out]; rfl, Below.refl _ _⟩
theorem parse_nan (w : World) : Calls Tryz.prog 58 #[.string ⟨#[110, 97, 110]⟩] w fun x w' => x = .returned (.tuple #[.float .f64 9221120237041090561, .bool true]) ∧ Below w.heap.size w w' := by
 have CP : ∀ W, ∃ T g, Calls Tryz.prog 102 #[.string ⟨#[110, 97, 110]⟩, .string ⟨#[45]⟩] W fun e w' => e = .returned (.tuple #[.string T, .bool g]) ∧ w' = W := fun W => ⟨_, _, Tryz.strings_CutPrefix ⟨#[110, 97, 110]⟩ ⟨#[45]⟩ W⟩
 obtain ⟨T, g, hCP⟩ := CP w
 have CP := Lib.hid hCP
 have NN := Lib.hid (fun W => nan_any W)
 clear hCP
 go_enter Tryz.func58, Tryz.ntmps58
 go_wp2_with fail
 refine (CP.out).mono ?_
 rintro x w1 ⟨rfl, rfl⟩
 go_wp2_with fail
 refine (NN.out _).mono ?_
 rintro x w2 ⟨rfl, rfl⟩
 go_wp2_with fail
 go_ret2
 exact ⟨rfl, Below.refl _ _⟩
theorem parse_txt (b : Nat) (hb : b < 18446744073709551616) (w : World) (hL : Laid w) :
 Calls Tryz.prog 58 #[.string ⟨(Fl.txt b).toArray⟩] w fun x w' => x = .returned (.tuple #[.float .f64 (Fl.canonW b), .bool true]) ∧ Below w.heap.size w w' := by
 rcases Nat.lt_trichotomy (b % 9223372036854775808) 9218868437227405312 with h | h | h
 · rw [show Fl.canonW b = b from if_neg (by omega)]
   by_cases h0 : b % 9223372036854775808 = 0
   · exact parse_zero b hb w h0
   · exact parse_num b hb w (by omega) h hL
 · rw [show Fl.canonW b = b from if_neg (by omega)]
   exact parse_inf b hb w h
 · rw [show Fl.canonW b = 9221120237041090561 from if_pos h, show Fl.txt b = [110, 97, 110] from if_pos h]
   exact parse_nan w
namespace Fl
def skey (n : Bool) (r : Nat) : Int := if n = true then -(r : Int) else (r : Int)
def key (b : Nat) : Int := skey (decide (9223372036854775808 ≤ b)) (b % 9223372036854775808)
theorem val_pos {r : Nat} (h : 0 < r) : 0 < val Ieee.double r := by
 have := val_lt (f := Ieee.double) h
 omega
theorem sval_lt {n m : Bool} {r s : Nat} (h : skey n r < skey m s) : sval Ieee.double n r < sval Ieee.double m s := by
 unfold skey at h
 unfold sval
 cases n <;> cases m <;> simp at h ⊢
 · exact val_lt (by omega)
 · omega
 · by_cases hr : r = 0
   · have := val_pos (r := s) (by omega)
     omega
   · have := val_pos (r := r) (by omega)
     omega
 · exact val_lt (by omega)
theorem sval_eq {n m : Bool} {r s : Nat} (h : skey n r = skey m s) : sval Ieee.double n r = sval Ieee.double m s := by
 unfold skey at h
 unfold sval
 cases n <;> cases m <;> simp at h ⊢
 · rw [show r = s by omega]
 · have h1 : r = 0 := by omega
   have h2 : s = 0 := by omega
   rw [h1, h2, val_zero]; rfl
 · have h1 : r = 0 := by omega
   have h2 : s = 0 := by omega
   rw [h1, h2, val_zero]; rfl
 · rw [show r = s by omega]
theorem cmp_sval (n m : Bool) (r s : Nat) : compare (sval Ieee.double n r) (sval Ieee.double m s) = compare (skey n r) (skey m s) := by
 rcases Int.lt_trichotomy (skey n r) (skey m s) with h | h | h
 · rw [Int.compare_eq_lt.2 h, Int.compare_eq_lt.2 (sval_lt h)]
 · rw [Int.compare_eq_eq.2 h, Int.compare_eq_eq.2 (sval_eq h)]
 · rw [Int.compare_eq_gt.2 h, Int.compare_eq_gt.2 (sval_lt h)]
end Fl
theorem order_key {x y : Nat} (hx : x < 18446744073709551616) (hy : y < 18446744073709551616) (nx : x % 9223372036854775808 ≤ 9218868437227405312) (ny : y % 9223372036854775808 ≤ 9218868437227405312) : FloatKind.f64.format.order x y = some (compare (Fl.key x) (Fl.key y)) := by
 show Ieee.Datum.order (Ieee.double.read x) (Ieee.double.read y) = _
 unfold Fl.key
 rcases Nat.eq_or_lt_of_le nx with h1 | h1
 · rcases Nat.eq_or_lt_of_le ny with h2 | h2
   · rw [read_inf' hx h1, read_inf' hy h2, h1, h2]
     generalize decide (9223372036854775808 ≤ x) = a
     generalize decide (9223372036854775808 ≤ y) = b
     cases a <;> cases b <;> decide
   · rw [read_inf' hx h1, read_fin hy h2, h1]
     generalize decide (9223372036854775808 ≤ x) = a
     generalize decide (9223372036854775808 ≤ y) = b
     generalize y % 9223372036854775808 = s at *
     cases a
     · show some Ordering.gt = _
       rw [Int.compare_eq_gt.2]
       cases b <;> simp [Fl.skey] <;> omega
     · show some Ordering.lt = _
       rw [Int.compare_eq_lt.2]
       cases b <;> simp [Fl.skey] <;> omega
 · rcases Nat.eq_or_lt_of_le ny with h2 | h2
   · rw [read_fin hx h1, read_inf' hy h2, h2]
     generalize decide (9223372036854775808 ≤ x) = a
     generalize decide (9223372036854775808 ≤ y) = b
     generalize x % 9223372036854775808 = s at *
     cases b
     · show some Ordering.lt = _
       rw [Int.compare_eq_lt.2]
       cases a <;> simp [Fl.skey] <;> omega
     · show some Ordering.gt = _
       rw [Int.compare_eq_gt.2]
       cases a <;> simp [Fl.skey] <;> omega
   · rw [read_fin hx h1, read_fin hy h2, Fl.order_rungs, Fl.cmp_sval]
theorem canon_self {b : Nat} (h : b % 9223372036854775808 ≤ 9218868437227405312) : Fl.canonW b = b := if_neg (by omega)
end Go.Proofs.YtjapgpmoojfhnaaGreatDoor
