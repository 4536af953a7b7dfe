/- fits, and parse at canonical texts. -/
import Derived.Test.YtjapgpmoojfhnaaGreatDoorPlainD
namespace Go.Proofs.YtjapgpmoojfhnaaGreatDoor
open Go.RowKit Go.Lib

set_option maxHeartbeats 1000000 in
set_option maxRecDepth 100000 in
theorem fits_true (m : Nat) (e : Int) (w : World) (h0 : 0 < m) (hm : m < 9007199254740992) (hodd : m % 2 = 1) (hl : m.log2 ≤ 52) (h1 : -1074 ≤ e) (h2 : e ≤ 1023) (h3 : e + (m.log2 + 1 : Nat) ≤ 1024) :
    Calls Tryz.prog 83 #[.int .u64 (m : Int), .int .i64 e] w fun x w' => x = .returned (.bool true) ∧ w' = w := by
  obtain ⟨L, hL⟩ : ∃ L, m.log2 + 1 = L := ⟨_, rfl⟩
  have LN := Lib.hid (fun W => Tryz.bits_Len64 (m : Int) W (by omega) (by omega))
  have hbl : Lib.bitLen (m : Int).toNat = L := by rw [Int.toNat_natCast, Fl.bitLen_log2 m (by omega) (by omega), hL]
  rw [hbl] at LN
  rw [hL] at h3
  have g1 : (m : Int) % 2 = 1 := by omega
  have g2 : Int.tmod (m : Int) 2 = 1 := by rw [Int.tmod_eq_emod_of_nonneg (by omega)]; exact g1
  have c1 : decide ((L : Int) ≤ 53) = true := decide_eq_true (by omega)
  have c2 : decide ((-1074 : Int) ≤ e) = true := decide_eq_true h1
  have c3 : decide (e ≤ 1023) = true := decide_eq_true h2
  have g3 : IntKind.i64.wrap (e + (L : Int)) = e + (L : Int) := IntWalk.i64_in _ (by omega)
  have c4 : decide (e + (L : Int) ≤ 1024) = true := decide_eq_true h3
  clear h0 hm hodd hl h1 h2 h3 hL hbl
  go_enter Tryz.func83, Tryz.ntmps83
  go_wp2_with fail
  refine (LN.out _).mono ?_
  rintro x w1 ⟨rfl, rfl⟩
  go_wp2_with fail
  go_ret
  exact ⟨rfl, rfl⟩
theorem pre_minus (X : List UInt8) : Lib.trimPrefix (45 :: X) [45] = X ∧ Lib.hasPrefix (45 :: X) [45] = true := by
  have h : Lib.hasPrefix (45 :: X) [45] = true := by simp [Lib.hasPrefix, List.isPrefixOf]
  exact ⟨by rw [Lib.trimPrefix, if_pos h]; rfl, h⟩
theorem pre_none {X : List UInt8} (hX : X.head? ≠ some 45) : Lib.trimPrefix X [45] = X ∧ Lib.hasPrefix X [45] = false := by
  have h : Lib.hasPrefix X [45] = false := by
    cases X with
    | nil => rfl
    | cons c l =>
      simp only [List.head?_cons, ne_eq, Option.some.injEq] at hX
      simp only [Lib.hasPrefix, List.isPrefixOf, Bool.and_eq_false_iff]
      left
      rw [beq_eq_false_iff_ne]
      exact fun he => hX he.symm
  exact ⟨by rw [Lib.trimPrefix, if_neg (by rw [h]; simp)], h⟩
/-- Cutting the sign off. -/
theorem pre_txt {b : Nat} {X : List UInt8} (hX : X.head? ≠ some 45) : Lib.trimPrefix (Fl.sgB b ++ X) [45] = X ∧ Lib.hasPrefix (Fl.sgB b ++ X) [45] = decide (9223372036854775808 ≤ b) := by
  unfold Fl.sgB
  by_cases h : 9223372036854775808 ≤ b
  · rw [if_pos h, decide_eq_true h]; exact pre_minus X
  · rw [if_neg h, decide_eq_false h]; exact pre_none hX
theorem num_head (r : Nat) : ∃ c l, Fl.numB r = c :: l ∧ 48 ≤ c.toNat ∧ c.toNat ≤ 57 := by
  rw [Fl.numB_is]
  cases hd : decDigits (Fl.om r) with
  | nil => exact absurd hd (Fl.dec_ne_nil _)
  | cons c l => exact ⟨c, _, rfl, Dc.dec_mem (Fl.om r) c (by rw [hd]; simp)⟩
theorem num_ne (r : Nat) : Fl.numB r ≠ [105, 110, 102] := by
  obtain ⟨c, l, h, h1, h2⟩ := num_head r
  rw [h]
  intro he
  cases he
  exact absurd h2 (by decide)
theorem num_ne_nan (b r : Nat) : Fl.sgB b ++ Fl.numB r ≠ [110, 97, 110] := by
  obtain ⟨c, l, h, h1, h2⟩ := num_head r
  rw [h]
  unfold Fl.sgB
  split
  · intro he; cases he
  · intro he
    cases he
    exact absurd h2 (by decide)
theorem num_ne_zero {r : Nat} (h0 : 0 < r) : Fl.numB r ≠ [48, 112, 48] := by
  intro he
  have h1 := Fl.cut_num r
  rw [he] at h1
  have h2 : Lib.cut [48, 112, 48] [112] = ([48], [48], true) := by decide
  rw [h2] at h1
  have h3 : decDigits (Fl.om r) = [48] := (congrArg Prod.fst h1).symm
  have h4 := Fl.uint_dec (Fl.om_spec h0).2.2.2
  rw [h3] at h4
  have h5 : Lib.parseUintB 64 [48] = .ok 0 := by decide
  rw [h5] at h4
  injection h4 with h6
  have := (Fl.om_spec h0).2.2.1
  omega
theorem ba_list {l m : List UInt8} (h : l ≠ m) : ((⟨l.toArray⟩ : ByteArray).toList == m) = false := by
  rw [beq_eq_false_iff_ne]
  intro he
  rw [Lib.toList_data] at he
  exact h he
theorem below_drewN {B : Nat} {w w' : World} (h : Below B w w') (n : Nat) : Below B w (w'.drewN n) := by
  obtain ⟨a, b, c, d, e⟩ := h
  exact ⟨a, b, c, d, e⟩
set_option maxHeartbeats 1000000 in
set_option maxRecDepth 100000 in
theorem parse_num (b : Nat) (hb : b < 18446744073709551616) (w : World) (h0 : 0 < b % 9223372036854775808) (hr : b % 9223372036854775808 < 9218868437227405312) (hL : Laid w) :
    Calls Tryz.prog 58 #[.string ⟨(Fl.txt b).toArray⟩] w fun x w' => x = .returned (.tuple #[.float .f64 b, .bool true]) ∧ Below w.heap.size w w' := by
  obtain ⟨r, hrr⟩ : ∃ r, b % 9223372036854775808 = r := ⟨_, rfl⟩
  rw [hrr] at h0 hr
  have ht : Fl.txt b = Fl.sgB b ++ Fl.numB r := by rw [Fl.txt, hrr, if_neg (by omega), if_neg (by omega), if_neg (by omega)]
  obtain ⟨p1, p2⟩ := pre_txt (b := b) (Fl.not_minus r)
  obtain ⟨S, hS⟩ : ∃ S : ByteArray, ⟨(Fl.txt b).toArray⟩ = S := ⟨_, rfl⟩
  obtain ⟨X, hX⟩ : ∃ X : ByteArray, ⟨(Fl.numB r).toArray⟩ = X := ⟨_, rfl⟩
  obtain ⟨sb, hsb⟩ : ∃ sb, decide (9223372036854775808 ≤ b) = sb := ⟨_, rfl⟩
  have CP : ∀ W, Calls Tryz.prog 102 #[.string S, .string ⟨#[45]⟩] W fun e w' => e = .returned (.tuple #[.string X, .bool sb]) ∧ w' = W := fun W => by
    have h := Tryz.strings_CutPrefix S ⟨#[45]⟩ W
    have e1 : S.data.toList = Fl.sgB b ++ Fl.numB r := by rw [← hS, ← ht]
    rw [e1, show (⟨#[45]⟩ : ByteArray).data.toList = [45] from rfl, p1, p2, hX, hsb] at h
    exact h
  have n1 : (S.toList == [110, 97, 110]) = false := by rw [← hS, ht]; exact ba_list (m := [110, 97, 110]) (num_ne_nan b r)
  have n2 : (X.toList == [105, 110, 102]) = false := by rw [← hX]; exact ba_list (m := [105, 110, 102]) (num_ne r)
  have n3 : (X.toList == [48, 112, 48]) = false := by rw [← hX]; exact ba_list (m := [48, 112, 48]) (num_ne_zero h0)
  obtain ⟨a1, a2, a3, a4⟩ := Fl.om_spec h0
  obtain ⟨b1, b2, b3, b4⟩ := Fl.om_bounds h0 hr
  have hsame := Fl.om_same h0
  have hcut := Fl.cut_num r
  have hup := Fl.uint_dec a4
  obtain ⟨m, hm⟩ : ∃ m, Fl.om r = m := ⟨_, rfl⟩
  obtain ⟨e, he⟩ : ∃ e, Fl.oe r = e := ⟨_, rfl⟩
  have hnum := Fl.numB_is r
  rw [hm, he] at hnum hcut hsame b4
  rw [hm] at a2 a3 a4 b1 hup
  rw [he] at b2 b3
  obtain ⟨A, hA⟩ : ∃ A : ByteArray, ⟨(decDigits m).toArray⟩ = A := ⟨_, rfl⟩
  obtain ⟨B, hB⟩ : ∃ B : ByteArray, ⟨(itoa e).toArray⟩ = B := ⟨_, rfl⟩
  have hAs : A.size ≤ 20 := by
    rw [← hA]
    show (decDigits m).length ≤ 20
    rw [Lib.decDigits_length]
    have := Lib.numDigits_eq m a3 (by omega)
    split at this <;> omega
  have hBs : B.size ≤ 5 := by rw [← hB]; exact Dc.itoa_len (by omega) (by omega)
  have hXs : X.size ≤ 30 := by
    rw [← hX]
    show (Fl.numB r).length ≤ 30
    rw [hnum, List.length_append, List.length_cons]
    have e1 : (decDigits m).length = A.size := by rw [← hA]; rfl
    have e2 : (itoa e).length = B.size := by rw [← hB]; rfl
    omega
  have CU : ∀ W, Laid W → Calls Tryz.prog 48 #[.string X, .string ⟨#[112]⟩] W fun x w' => x = .returned (.tuple #[.string A, .string B, .bool true]) ∧ Below W.heap.size W w' := fun W hW => by
    obtain ⟨mm, hmm⟩ := hW.2.2.2.2.2.1
    have h := Tryz.strings_Cut X ⟨#[112]⟩ mm W (by omega) hmm
    have e1 : X.data.toList = Fl.numB r := by rw [← hX]
    rw [e1, show (⟨#[112]⟩ : ByteArray).data.toList = [112] from rfl, hcut, hA, hB] at h
    refine h.mono ?_
    rintro x w' ⟨rfl, n, rfl⟩
    exact ⟨rfl, below_drewN (Below.refl _ _) n⟩
  have PU := fun W => uint_ok A (by omega) m (by rw [← hA]; exact hup) W
  have AT := fun W => atoi_ok B (by omega) e (by rw [← hB]; exact Dc.atoi_itoa (by omega) (by omega)) W
  have FI := fun W => fits_true m e W a3 a4 a2 b1 b2 b3 b4
  have LD := fun W => ldexp_any m e r W a3 a4 (by omega) h0 hr hsame
  have hcvt : floatOfInt FloatKind.f64 (m : Int) = Fl.wordN m := by
    have h := Fl.nearest_nat a3 a4
    change Ieee.double.nearest (decide ((m : Int) < 0)) (m : Int).natAbs 0 = _
    rw [show decide ((m : Int) < 0) = false from decide_eq_false (by omega), Int.natAbs_natCast]
    exact h
  have TX := fun W hW => text_any r (by omega) W hW
  have hTX : (⟨(Fl.txt r).toArray⟩ : ByteArray) = X := by
    have h2 : r % 9223372036854775808 = r := Nat.mod_eq_of_lt (by omega)
    rw [Fl.txt, h2, if_neg (by omega), if_neg (by omega), if_neg (by omega), Fl.sgB, if_neg (by omega), List.nil_append, hX]
  rw [hTX] at TX
  have CS := fun W => copysign_any r 13830554455654793216 W (by omega) (by decide)
  obtain ⟨f0, hf0⟩ : ∃ f0, Fl.wordN m = f0 := ⟨_, rfl⟩
  rw [hf0] at LD hcvt
  have hcs : r % 9223372036854775808 + 13830554455654793216 / 9223372036854775808 * 9223372036854775808 = r + 9223372036854775808 := by omega
  rw [hcs] at CS
  have hbs : (sb = true → r + 9223372036854775808 = b) ∧ (sb = false → r = b) := by
    rw [← hsb]
    refine ⟨fun h => ?_, fun h => ?_⟩
    · have := of_decide_eq_true h; omega
    · have := of_decide_eq_false h; omega
  have CP := Lib.hid CP
  have CU := Lib.hid CU
  have PU := Lib.hid PU
  have AT := Lib.hid AT
  have FI := Lib.hid FI
  have LD := Lib.hid LD
  have TX := Lib.hid TX
  have CS := Lib.hid CS
  have HBS := Lib.hid hbs
  have HL := Lib.hid hL
  rw [hS]
  clear hf0 hcs hTX hAs hBs hXs hA hB hX hS hm he hnum hcut hsame hup a1 a2 a3 a4 b1 b2 b3 b4 hbs hL p1 p2 ht hrr h0 hr hsb hb
  go_enter Tryz.func58, Tryz.ntmps58
  go_wp2_with fail
  refine (CP.out _).mono ?_
  rintro x w1 ⟨rfl, rfl⟩
  go_wp2_with fail
  refine (CU.out _ HL.out).mono ?_
  rintro x w2 ⟨rfl, hb2⟩
  go_wp2_with fail
  refine (PU.out _).mono ?_
  rintro x w3 ⟨rfl, hb3⟩
  have hb3 := hb2.trans (hb3.mono hb2.size)
  go_wp2_with fail
  refine (AT.out _).mono ?_
  rintro x w4 ⟨rfl, hb4⟩
  have hb4 := hb3.trans (hb4.mono hb3.size)
  go_wp2_with fail
  refine (FI.out _).mono ?_
  rintro x w5 ⟨rfl, rfl⟩
  go_wp2_with fail
  refine (LD.out _).mono ?_
  rintro x w6 ⟨rfl, rfl⟩
  go_wp2_with fail
  refine (TX.out _ (HL.out.on hb4)).mono ?_
  rintro x w7 ⟨rfl, hb7⟩
  have hb7 := hb4.trans (hb7.mono hb4.size)
  have n4 : (X.toList != X.toList) = false := by simp
  cases sb with
  | true =>
    have E := Lib.hid (HBS.out.1 rfl)
    go_wp2_with fail
    refine (CS.out _).mono ?_
    rintro x w8 ⟨rfl, rfl⟩
    rw [E.out]
    go_wp2_with fail
    go_ret2
    exact ⟨rfl, hb7⟩
  | false =>
    have E := Lib.hid (HBS.out.2 rfl)
    go_wp2_with fail
    go_ret2
    exact ⟨by rw [E.out]; rfl, hb7⟩
end Go.Proofs.YtjapgpmoojfhnaaGreatDoor
