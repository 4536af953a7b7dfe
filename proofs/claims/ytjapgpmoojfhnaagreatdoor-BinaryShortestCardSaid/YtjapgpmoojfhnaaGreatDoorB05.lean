/- fits, and parse at canonical texts. parse at every canonical text. Cmp at canonical texts. The reference: odd. The reference: of64. -/
import Derived.Test.YtjapgpmoojfhnaaGreatDoorB04
import Derived.Deep.LoopGhost
namespace Go.Proofs.YtjapgpmoojfhnaaGreatDoor
open Go.RowKit Go.Lib

set_option maxHeartbeats 1000000 in
set_option maxRecDepth 100000 in
theorem fits_true (m : Nat) (e : Int) (w : World) (h0 : 0 < m) (hm : m < 9007199254740992) (hodd : m % 2 = 1) (hl : m.log2 ≤ 52) (h1 : -1074 ≤ e) (h2 : e ≤ 1023) (h3 : e + (m.log2 + 1 : Nat) ≤ 1024) :
    Calls Tryz.prog 83 #[.int .u64 (m : Int), .int .i64 e] w fun x w' => x = .returned (.bool true) ∧ w' = w := by
  obtain ⟨L, hL⟩ : ∃ L, m.log2 + 1 = L := ⟨_, rfl⟩
  have LN := Lib.hid (fun W => Tryz.bits_Len64 (m : Int) W (by omega) (by omega))
  have hbl : Lib.bitLen (m : Int).toNat = L := by rw [Int.toNat_natCast, Fl.bitLen_log2 m (by omega) (by omega), hL]
  rw [hbl] at LN
  rw [hL] at h3
  have g1 : (m : Int) % 2 = 1 := by omega
  have g2 : Int.tmod (m : Int) 2 = 1 := by rw [Int.tmod_eq_emod_of_nonneg (by omega)]; exact g1
  have c1 : decide ((L : Int) ≤ 53) = true := decide_eq_true (by omega)
  have c2 : decide ((-1074 : Int) ≤ e) = true := decide_eq_true h1
  have c3 : decide (e ≤ 1023) = true := decide_eq_true h2
  have g3 : IntKind.i64.wrap (e + (L : Int)) = e + (L : Int) := IntWalk.i64_in _ (by omega)
  have c4 : decide (e + (L : Int) ≤ 1024) = true := decide_eq_true h3
  clear h0 hm hodd hl h1 h2 h3 hL hbl
  go_enter Tryz.func83, Tryz.ntmps83
  go_wp2_with fail
  refine (LN.out _).mono ?_
  rintro x w1 ⟨rfl, rfl⟩
  go_wp2_with fail
  go_ret
  exact ⟨rfl, rfl⟩
theorem pre_minus (X : List UInt8) : Lib.trimPrefix (45 :: X) [45] = X ∧ Lib.hasPrefix (45 :: X) [45] = true := by
  have h : Lib.hasPrefix (45 :: X) [45] = true := by simp [Lib.hasPrefix, List.isPrefixOf]
  exact ⟨by rw [Lib.trimPrefix, if_pos h]; rfl, h⟩
theorem pre_none {X : List UInt8} (hX : X.head? ≠ some 45) : Lib.trimPrefix X [45] = X ∧ Lib.hasPrefix X [45] = false := by
  have h : Lib.hasPrefix X [45] = false := by
    cases X with
    | nil => rfl
    | cons c l =>
      simp only [List.head?_cons, ne_eq, Option.some.injEq] at hX
      simp only [Lib.hasPrefix, List.isPrefixOf, Bool.and_eq_false_iff]
      left
      rw [beq_eq_false_iff_ne]
      exact fun he => hX he.symm
  exact ⟨by rw [Lib.trimPrefix, if_neg (by rw [h]; simp)], h⟩
/-- Cutting the sign off. -/
theorem pre_txt {b : Nat} {X : List UInt8} (hX : X.head? ≠ some 45) : Lib.trimPrefix (Fl.sgB b ++ X) [45] = X ∧ Lib.hasPrefix (Fl.sgB b ++ X) [45] = decide (9223372036854775808 ≤ b) := by
  unfold Fl.sgB
  by_cases h : 9223372036854775808 ≤ b
  · rw [if_pos h, decide_eq_true h]; exact pre_minus X
  · rw [if_neg h, decide_eq_false h]; exact pre_none hX
theorem num_head (r : Nat) : ∃ c l, Fl.numB r = c :: l ∧ 48 ≤ c.toNat ∧ c.toNat ≤ 57 := by
  rw [Fl.numB_is]
  cases hd : decDigits (Fl.om r) with
  | nil => exact absurd hd (Fl.dec_ne_nil _)
  | cons c l => exact ⟨c, _, rfl, Dc.dec_mem (Fl.om r) c (by rw [hd]; simp)⟩
theorem num_ne (r : Nat) : Fl.numB r ≠ [105, 110, 102] := by
  obtain ⟨c, l, h, h1, h2⟩ := num_head r
  rw [h]
  intro he
  cases he
  exact absurd h2 (by decide)
theorem num_ne_nan (b r : Nat) : Fl.sgB b ++ Fl.numB r ≠ [110, 97, 110] := by
  obtain ⟨c, l, h, h1, h2⟩ := num_head r
  rw [h]
  unfold Fl.sgB
  split
  · intro he; cases he
  · intro he
    cases he
    exact absurd h2 (by decide)
theorem num_ne_zero {r : Nat} (h0 : 0 < r) : Fl.numB r ≠ [48, 112, 48] := by
  intro he
  have h1 := Fl.cut_num r
  rw [he] at h1
  have h2 : Lib.cut [48, 112, 48] [112] = ([48], [48], true) := by decide
  rw [h2] at h1
  have h3 : decDigits (Fl.om r) = [48] := (congrArg Prod.fst h1).symm
  have h4 := Fl.uint_dec (Fl.om_spec h0).2.2.2
  rw [h3] at h4
  have h5 : Lib.parseUintB 64 [48] = .ok 0 := by decide
  rw [h5] at h4
  injection h4 with h6
  have := (Fl.om_spec h0).2.2.1
  omega
theorem ba_list {l m : List UInt8} (h : l ≠ m) : ((⟨l.toArray⟩ : ByteArray).toList == m) = false := by
  rw [beq_eq_false_iff_ne]
  intro he
  rw [Lib.toList_data] at he
  exact h he
theorem below_drewN {B : Nat} {w w' : World} (h : Below B w w') (n : Nat) : Below B w (w'.drewN n) := by
  obtain ⟨a, b, c, d, e⟩ := h
  exact ⟨a, b, c, d, e⟩
set_option maxHeartbeats 1000000 in
set_option maxRecDepth 100000 in
theorem parse_num (b : Nat) (hb : b < 18446744073709551616) (w : World) (h0 : 0 < b % 9223372036854775808) (hr : b % 9223372036854775808 < 9218868437227405312) (hL : Laid w) :
    Calls Tryz.prog 58 #[.string ⟨(Fl.txt b).toArray⟩] w fun x w' => x = .returned (.tuple #[.float .f64 b, .bool true]) ∧ Below w.heap.size w w' := by
  obtain ⟨r, hrr⟩ : ∃ r, b % 9223372036854775808 = r := ⟨_, rfl⟩
  rw [hrr] at h0 hr
  have ht : Fl.txt b = Fl.sgB b ++ Fl.numB r := by rw [Fl.txt, hrr, if_neg (by omega), if_neg (by omega), if_neg (by omega)]
  obtain ⟨p1, p2⟩ := pre_txt (b := b) (Fl.not_minus r)
  obtain ⟨S, hS⟩ : ∃ S : ByteArray, ⟨(Fl.txt b).toArray⟩ = S := ⟨_, rfl⟩
  obtain ⟨X, hX⟩ : ∃ X : ByteArray, ⟨(Fl.numB r).toArray⟩ = X := ⟨_, rfl⟩
  obtain ⟨sb, hsb⟩ : ∃ sb, decide (9223372036854775808 ≤ b) = sb := ⟨_, rfl⟩
  have CP : ∀ W, Calls Tryz.prog 102 #[.string S, .string ⟨#[45]⟩] W fun e w' => e = .returned (.tuple #[.string X, .bool sb]) ∧ w' = W := fun W => by
    have h := Tryz.strings_CutPrefix S ⟨#[45]⟩ W
    have e1 : S.data.toList = Fl.sgB b ++ Fl.numB r := by rw [← hS, ← ht]
    rw [e1, show (⟨#[45]⟩ : ByteArray).data.toList = [45] from rfl, p1, p2, hX, hsb] at h
    exact h
  have n1 : (S.toList == [110, 97, 110]) = false := by rw [← hS, ht]; exact ba_list (m := [110, 97, 110]) (num_ne_nan b r)
  have n2 : (X.toList == [105, 110, 102]) = false := by rw [← hX]; exact ba_list (m := [105, 110, 102]) (num_ne r)
  have n3 : (X.toList == [48, 112, 48]) = false := by rw [← hX]; exact ba_list (m := [48, 112, 48]) (num_ne_zero h0)
  obtain ⟨a1, a2, a3, a4⟩ := Fl.om_spec h0
  obtain ⟨b1, b2, b3, b4⟩ := Fl.om_bounds h0 hr
  have hsame := Fl.om_same h0
  have hcut := Fl.cut_num r
  have hup := Fl.uint_dec a4
  obtain ⟨m, hm⟩ : ∃ m, Fl.om r = m := ⟨_, rfl⟩
  obtain ⟨e, he⟩ : ∃ e, Fl.oe r = e := ⟨_, rfl⟩
  have hnum := Fl.numB_is r
  rw [hm, he] at hnum hcut hsame b4
  rw [hm] at a2 a3 a4 b1 hup
  rw [he] at b2 b3
  obtain ⟨A, hA⟩ : ∃ A : ByteArray, ⟨(decDigits m).toArray⟩ = A := ⟨_, rfl⟩
  obtain ⟨B, hB⟩ : ∃ B : ByteArray, ⟨(itoa e).toArray⟩ = B := ⟨_, rfl⟩
  have hAs : A.size ≤ 20 := by
    rw [← hA]
    show (decDigits m).length ≤ 20
    rw [Lib.decDigits_length]
    have := Lib.numDigits_eq m a3 (by omega)
    split at this <;> omega
  have hBs : B.size ≤ 5 := by rw [← hB]; exact Dc.itoa_len (by omega) (by omega)
  have hXs : X.size ≤ 30 := by
    rw [← hX]
    show (Fl.numB r).length ≤ 30
    rw [hnum, List.length_append, List.length_cons]
    have e1 : (decDigits m).length = A.size := by rw [← hA]; rfl
    have e2 : (itoa e).length = B.size := by rw [← hB]; rfl
    omega
  have CU : ∀ W, Laid W → Calls Tryz.prog 48 #[.string X, .string ⟨#[112]⟩] W fun x w' => x = .returned (.tuple #[.string A, .string B, .bool true]) ∧ Below W.heap.size W w' := fun W hW => by
    obtain ⟨mm, hmm⟩ := hW.2.2.2.2.2.1
    have h := Tryz.strings_Cut X ⟨#[112]⟩ mm W (by omega) hmm
    have e1 : X.data.toList = Fl.numB r := by rw [← hX]
    rw [e1, show (⟨#[112]⟩ : ByteArray).data.toList = [112] from rfl, hcut, hA, hB] at h
    refine h.mono ?_
    rintro x w' ⟨rfl, n, rfl⟩
    exact ⟨rfl, below_drewN (Below.refl _ _) n⟩
  have PU := fun W => uint_ok A (by omega) m (by rw [← hA]; exact hup) W
  have AT := fun W => atoi_ok B (by omega) e (by rw [← hB]; exact Dc.atoi_itoa (by omega) (by omega)) W
  have FI := fun W => fits_true m e W a3 a4 a2 b1 b2 b3 b4
  have LD := fun W => ldexp_any m e r W a3 a4 (by omega) h0 hr hsame
  have hcvt : floatOfInt FloatKind.f64 (m : Int) = Fl.wordN m := by
    have h := Fl.nearest_nat a3 a4
    change Ieee.double.nearest (decide ((m : Int) < 0)) (m : Int).natAbs 0 = _
    rw [show decide ((m : Int) < 0) = false from decide_eq_false (by omega), Int.natAbs_natCast]
    exact h
  have TX := fun W hW => text_any r (by omega) W hW
  have hTX : (⟨(Fl.txt r).toArray⟩ : ByteArray) = X := by
    have h2 : r % 9223372036854775808 = r := Nat.mod_eq_of_lt (by omega)
    rw [Fl.txt, h2, if_neg (by omega), if_neg (by omega), if_neg (by omega), Fl.sgB, if_neg (by omega), List.nil_append, hX]
  rw [hTX] at TX
  have CS := fun W => copysign_any r 13830554455654793216 W (by omega) (by decide)
  obtain ⟨f0, hf0⟩ : ∃ f0, Fl.wordN m = f0 := ⟨_, rfl⟩
  rw [hf0] at LD hcvt
  have hcs : r % 9223372036854775808 + 13830554455654793216 / 9223372036854775808 * 9223372036854775808 = r + 9223372036854775808 := by omega
  rw [hcs] at CS
  have hbs : (sb = true → r + 9223372036854775808 = b) ∧ (sb = false → r = b) := by
    rw [← hsb]
    refine ⟨fun h => ?_, fun h => ?_⟩
    · have := of_decide_eq_true h; omega
    · have := of_decide_eq_false h; omega
  have CP := Lib.hid CP
  have CU := Lib.hid CU
  have PU := Lib.hid PU
  have AT := Lib.hid AT
  have FI := Lib.hid FI
  have LD := Lib.hid LD
  have TX := Lib.hid TX
  have CS := Lib.hid CS
  have HBS := Lib.hid hbs
  have HL := Lib.hid hL
  rw [hS]
  clear hf0 hcs hTX hAs hBs hXs hA hB hX hS hm he hnum hcut hsame hup a1 a2 a3 a4 b1 b2 b3 b4 hbs hL p1 p2 ht hrr h0 hr hsb hb
  go_enter Tryz.func58, Tryz.ntmps58
  go_wp2_with fail
  refine (CP.out _).mono ?_
  rintro x w1 ⟨rfl, rfl⟩
  go_wp2_with fail
  refine (CU.out _ HL.out).mono ?_
  rintro x w2 ⟨rfl, hb2⟩
  go_wp2_with fail
  refine (PU.out _).mono ?_
  rintro x w3 ⟨rfl, hb3⟩
  have hb3 := hb2.trans (hb3.mono hb2.size)
  go_wp2_with fail
  refine (AT.out _).mono ?_
  rintro x w4 ⟨rfl, hb4⟩
  have hb4 := hb3.trans (hb4.mono hb3.size)
  go_wp2_with fail
  refine (FI.out _).mono ?_
  rintro x w5 ⟨rfl, rfl⟩
  go_wp2_with fail
  refine (LD.out _).mono ?_
  rintro x w6 ⟨rfl, rfl⟩
  go_wp2_with fail
  refine (TX.out _ (HL.out.on hb4)).mono ?_
  rintro x w7 ⟨rfl, hb7⟩
  have hb7 := hb4.trans (hb7.mono hb4.size)
  have n4 : (X.toList != X.toList) = false := by simp
  cases sb with
  | true =>
    have E := Lib.hid (HBS.out.1 rfl)
    go_wp2_with fail
    refine (CS.out _).mono ?_
    rintro x w8 ⟨rfl, rfl⟩
    rw [E.out]
    go_wp2_with fail
    go_ret2
    exact ⟨rfl, hb7⟩
  | false =>
    have E := Lib.hid (HBS.out.2 rfl)
    go_wp2_with fail
    go_ret2
    exact ⟨by rw [E.out]; rfl, hb7⟩
end Go.Proofs.YtjapgpmoojfhnaaGreatDoor

namespace Go.Proofs.YtjapgpmoojfhnaaGreatDoor
open Go.RowKit Go.Lib

/-- The word that a canonical text is read as. -/
def Fl.canonW (b : Nat) : Nat := if 9218868437227405312 < b % 9223372036854775808 then 9221120237041090561 else b
set_option maxHeartbeats 1000000 in
set_option maxRecDepth 100000 in
theorem parse_zero (b : Nat) (hb : b < 18446744073709551616) (w : World) (h0 : b % 9223372036854775808 = 0) :
    Calls Tryz.prog 58 #[.string ⟨(Fl.txt b).toArray⟩] w fun x w' => x = .returned (.tuple #[.float .f64 b, .bool true]) ∧ Below w.heap.size w w' := by
  have ht : Fl.txt b = Fl.sgB b ++ [48, 112, 48] := by rw [Fl.txt, h0]; rfl
  obtain ⟨p1, p2⟩ := pre_txt (b := b) (X := [48, 112, 48]) (by decide)
  obtain ⟨S, hS⟩ : ∃ S : ByteArray, ⟨(Fl.txt b).toArray⟩ = S := ⟨_, rfl⟩
  obtain ⟨sb, hsb⟩ : ∃ sb, decide (9223372036854775808 ≤ b) = sb := ⟨_, rfl⟩
  have CP : ∀ W, Calls Tryz.prog 102 #[.string S, .string ⟨#[45]⟩] W fun e w' => e = .returned (.tuple #[.string ⟨#[48, 112, 48]⟩, .bool sb]) ∧ w' = W := fun W => by
    have h := Tryz.strings_CutPrefix S ⟨#[45]⟩ W
    have e1 : S.data.toList = Fl.sgB b ++ [48, 112, 48] := by rw [← hS, ← ht]
    rw [e1, show (⟨#[45]⟩ : ByteArray).data.toList = [45] from rfl, p1, p2, hsb] at h
    exact h
  have n1 : (S.toList == [110, 97, 110]) = false := by
    rw [← hS, ht]
    refine ba_list (m := [110, 97, 110]) ?_
    unfold Fl.sgB
    split <;> decide
  have CS := fun W => copysign_any 0 13830554455654793216 W (by omega) (by decide)
  have hbs : (sb = true → 9223372036854775808 = b) ∧ (sb = false → 0 = b) := by
    rw [← hsb]
    refine ⟨fun h => ?_, fun h => ?_⟩
    · have := of_decide_eq_true h; omega
    · have := of_decide_eq_false h; omega
  have CP := Lib.hid CP
  have CS := Lib.hid CS
  have HBS := Lib.hid hbs
  rw [hS]
  clear hS hbs p1 p2 ht h0 hsb hb
  go_enter Tryz.func58, Tryz.ntmps58
  go_wp2_with fail
  refine (CP.out _).mono ?_
  rintro x w1 ⟨rfl, rfl⟩
  cases sb with
  | true =>
    have E := Lib.hid (HBS.out.1 rfl)
    go_wp2_with fail
    refine (CS.out _).mono ?_
    rintro x w8 ⟨rfl, rfl⟩
    go_wp2_with fail
    go_ret2
    exact ⟨by rw [← E.out]; rfl, Below.refl _ _⟩
  | false =>
    have E := Lib.hid (HBS.out.2 rfl)
    go_wp2_with fail
    go_ret2
    exact ⟨by rw [← E.out]; rfl, Below.refl _ _⟩
set_option maxHeartbeats 1000000 in
set_option maxRecDepth 100000 in
theorem parse_inf (b : Nat) (hb : b < 18446744073709551616) (w : World) (h0 : b % 9223372036854775808 = 9218868437227405312) :
    Calls Tryz.prog 58 #[.string ⟨(Fl.txt b).toArray⟩] w fun x w' => x = .returned (.tuple #[.float .f64 b, .bool true]) ∧ Below w.heap.size w w' := by
  have ht : Fl.txt b = Fl.sgB b ++ [105, 110, 102] := by rw [Fl.txt, h0]; rfl
  obtain ⟨p1, p2⟩ := pre_txt (b := b) (X := [105, 110, 102]) (by decide)
  obtain ⟨S, hS⟩ : ∃ S : ByteArray, ⟨(Fl.txt b).toArray⟩ = S := ⟨_, rfl⟩
  obtain ⟨sb, hsb⟩ : ∃ sb, decide (9223372036854775808 ≤ b) = sb := ⟨_, rfl⟩
  have CP : ∀ W, Calls Tryz.prog 102 #[.string S, .string ⟨#[45]⟩] W fun e w' => e = .returned (.tuple #[.string ⟨#[105, 110, 102]⟩, .bool sb]) ∧ w' = W := fun W => by
    have h := Tryz.strings_CutPrefix S ⟨#[45]⟩ W
    have e1 : S.data.toList = Fl.sgB b ++ [105, 110, 102] := by rw [← hS, ← ht]
    rw [e1, show (⟨#[45]⟩ : ByteArray).data.toList = [45] from rfl, p1, p2, hsb] at h
    exact h
  have n1 : (S.toList == [110, 97, 110]) = false := by
    rw [← hS, ht]
    refine ba_list (m := [110, 97, 110]) ?_
    unfold Fl.sgB
    split <;> decide
  have IN := fun W => inf_any 1 W (by decide)
  have CS := fun W => copysign_any 9218868437227405312 13830554455654793216 W (by omega) (by decide)
  have hbs : (sb = true → 18442240474082181120 = b) ∧ (sb = false → 9218868437227405312 = b) := by
    rw [← hsb]
    refine ⟨fun h => ?_, fun h => ?_⟩
    · have := of_decide_eq_true h; omega
    · have := of_decide_eq_false h; omega
  have CP := Lib.hid CP
  have CS := Lib.hid CS
  have IN := Lib.hid IN
  have HBS := Lib.hid hbs
  rw [hS]
  clear hS hbs p1 p2 ht h0 hsb hb
  go_enter Tryz.func58, Tryz.ntmps58
  go_wp2_with fail
  refine (CP.out _).mono ?_
  rintro x w1 ⟨rfl, rfl⟩
  go_wp2_with fail
  refine (IN.out _).mono ?_
  rintro x w2 ⟨rfl, rfl⟩
  cases sb with
  | true =>
    have E := Lib.hid (HBS.out.1 rfl)
    go_wp2_with fail
    refine (CS.out _).mono ?_
    rintro x w8 ⟨rfl, rfl⟩
    go_wp2_with fail
    go_ret2
    exact ⟨by rw [← E.out]; rfl, Below.refl _ _⟩
  | false =>
    have E := Lib.hid (HBS.out.2 rfl)
    go_wp2_with fail
    go_ret2
    exact ⟨by rw [← E.out]; rfl, Below.refl _ _⟩
set_option maxHeartbeats 1000000 in
set_option maxRecDepth 100000 in
theorem parse_nan (w : World) : Calls Tryz.prog 58 #[.string ⟨#[110, 97, 110]⟩] w fun x w' => x = .returned (.tuple #[.float .f64 9221120237041090561, .bool true]) ∧ Below w.heap.size w w' := by
  have CP : ∀ W, ∃ T g, Calls Tryz.prog 102 #[.string ⟨#[110, 97, 110]⟩, .string ⟨#[45]⟩] W fun e w' => e = .returned (.tuple #[.string T, .bool g]) ∧ w' = W := fun W => ⟨_, _, Tryz.strings_CutPrefix ⟨#[110, 97, 110]⟩ ⟨#[45]⟩ W⟩
  obtain ⟨T, g, hCP⟩ := CP w
  have CP := Lib.hid hCP
  have NN := Lib.hid (fun W => nan_any W)
  clear hCP
  go_enter Tryz.func58, Tryz.ntmps58
  go_wp2_with fail
  refine (CP.out).mono ?_
  rintro x w1 ⟨rfl, rfl⟩
  go_wp2_with fail
  refine (NN.out _).mono ?_
  rintro x w2 ⟨rfl, rfl⟩
  go_wp2_with fail
  go_ret2
  exact ⟨rfl, Below.refl _ _⟩
/-- parse at every canonical text. -/
theorem parse_txt (b : Nat) (hb : b < 18446744073709551616) (w : World) (hL : Laid w) :
    Calls Tryz.prog 58 #[.string ⟨(Fl.txt b).toArray⟩] w fun x w' => x = .returned (.tuple #[.float .f64 (Fl.canonW b), .bool true]) ∧ Below w.heap.size w w' := by
  rcases Nat.lt_trichotomy (b % 9223372036854775808) 9218868437227405312 with h | h | h
  · rw [show Fl.canonW b = b from if_neg (by omega)]
    by_cases h0 : b % 9223372036854775808 = 0
    · exact parse_zero b hb w h0
    · exact parse_num b hb w (by omega) h hL
  · rw [show Fl.canonW b = b from if_neg (by omega)]
    exact parse_inf b hb w h
  · rw [show Fl.canonW b = 9221120237041090561 from if_pos h, show Fl.txt b = [110, 97, 110] from if_pos h]
    exact parse_nan w
end Go.Proofs.YtjapgpmoojfhnaaGreatDoor

namespace Go.Proofs.YtjapgpmoojfhnaaGreatDoor
open Go.RowKit Go.Lib

namespace Fl
def skey (n : Bool) (r : Nat) : Int := if n = true then -(r : Int) else (r : Int)
/-- A word as a signed number, by which words that are no NaN are ordered. -/
def key (b : Nat) : Int := skey (decide (9223372036854775808 ≤ b)) (b % 9223372036854775808)
theorem val_pos {r : Nat} (h : 0 < r) : 0 < val Ieee.double r := by
  have := val_lt (f := Ieee.double) h
  omega
theorem sval_lt {n m : Bool} {r s : Nat} (h : skey n r < skey m s) : sval Ieee.double n r < sval Ieee.double m s := by
  unfold skey at h
  unfold sval
  cases n <;> cases m <;> simp at h ⊢
  · exact val_lt (by omega)
  · omega
  · by_cases hr : r = 0
    · have := val_pos (r := s) (by omega)
      omega
    · have := val_pos (r := r) (by omega)
      omega
  · exact val_lt (by omega)
theorem sval_eq {n m : Bool} {r s : Nat} (h : skey n r = skey m s) : sval Ieee.double n r = sval Ieee.double m s := by
  unfold skey at h
  unfold sval
  cases n <;> cases m <;> simp at h ⊢
  · rw [show r = s by omega]
  · have h1 : r = 0 := by omega
    have h2 : s = 0 := by omega
    rw [h1, h2, val_zero]; rfl
  · have h1 : r = 0 := by omega
    have h2 : s = 0 := by omega
    rw [h1, h2, val_zero]; rfl
  · rw [show r = s by omega]
theorem cmp_sval (n m : Bool) (r s : Nat) : compare (sval Ieee.double n r) (sval Ieee.double m s) = compare (skey n r) (skey m s) := by
  rcases Int.lt_trichotomy (skey n r) (skey m s) with h | h | h
  · rw [Int.compare_eq_lt.2 h, Int.compare_eq_lt.2 (sval_lt h)]
  · rw [Int.compare_eq_eq.2 h, Int.compare_eq_eq.2 (sval_eq h)]
  · rw [Int.compare_eq_gt.2 h, Int.compare_eq_gt.2 (sval_lt h)]
end Fl
theorem order_key {x y : Nat} (hx : x < 18446744073709551616) (hy : y < 18446744073709551616) (nx : x % 9223372036854775808 ≤ 9218868437227405312) (ny : y % 9223372036854775808 ≤ 9218868437227405312) : FloatKind.f64.format.order x y = some (compare (Fl.key x) (Fl.key y)) := by
  show Ieee.Datum.order (Ieee.double.read x) (Ieee.double.read y) = _
  unfold Fl.key
  rcases Nat.eq_or_lt_of_le nx with h1 | h1
  · rcases Nat.eq_or_lt_of_le ny with h2 | h2
    · rw [read_inf' hx h1, read_inf' hy h2, h1, h2]
      generalize decide (9223372036854775808 ≤ x) = a
      generalize decide (9223372036854775808 ≤ y) = b
      cases a <;> cases b <;> decide
    · rw [read_inf' hx h1, read_fin hy h2, h1]
      generalize decide (9223372036854775808 ≤ x) = a
      generalize decide (9223372036854775808 ≤ y) = b
      generalize y % 9223372036854775808 = s at *
      cases a
      · show some Ordering.gt = _
        rw [Int.compare_eq_gt.2]
        cases b <;> simp [Fl.skey] <;> omega
      · show some Ordering.lt = _
        rw [Int.compare_eq_lt.2]
        cases b <;> simp [Fl.skey] <;> omega
  · rcases Nat.eq_or_lt_of_le ny with h2 | h2
    · rw [read_fin hx h1, read_inf' hy h2, h2]
      generalize decide (9223372036854775808 ≤ x) = a
      generalize decide (9223372036854775808 ≤ y) = b
      generalize x % 9223372036854775808 = s at *
      cases b
      · show some Ordering.lt = _
        rw [Int.compare_eq_lt.2]
        cases a <;> simp [Fl.skey] <;> omega
      · show some Ordering.gt = _
        rw [Int.compare_eq_gt.2]
        cases a <;> simp [Fl.skey] <;> omega
    · rw [read_fin hx h1, read_fin hy h2, Fl.order_rungs, Fl.cmp_sval]
theorem canon_self {b : Nat} (h : b % 9223372036854775808 ≤ 9218868437227405312) : Fl.canonW b = b := if_neg (by omega)
theorem canon_nan {b : Nat} (h : 9218868437227405312 < b % 9223372036854775808) : Fl.canonW b = 9221120237041090561 := if_pos h
end Go.Proofs.YtjapgpmoojfhnaaGreatDoor

namespace Go.Proofs.YtjapgpmoojfhnaaGreatDoor
open Go.RowKit Go.Lib

set_option maxHeartbeats 1000000 in
set_option maxRecDepth 100000 in
theorem odd_zero (neg : Bool) (e : Int) (w : World) : Calls Tryz.prog 45 #[.bool neg, .int .u64 0, .int .i64 e] w fun x w' => x = .returned (.agg #[.int .i64 0, .bool neg, .int .u64 0, .int .i64 0]) ∧ Below w.heap.size w w' := by
  go_enter Tryz.func45, Tryz.ntmps45
  go_wp2_with fail
  have hX := heap_alloc_new w (.cells #[.int .i64 0, .bool neg, .int .u64 0, .int .i64 0] 24)
  have z0 := at_block hX 0 _ rfl
  have z1 := at_block hX 1 _ rfl
  have z2 := at_block hX 2 _ rfl
  have z3 := at_block hX 3 _ rfl
  refine bodyPost_ret (v := .agg #[.int .i64 0, .bool neg, .int .u64 0, .int .i64 0]) (by simp [results, Tryz.results45, go_sem, z0, z1, z2, z3]) rfl ?_
  exact ⟨rfl, (Below.refl _ _).alloc (Nat.le_refl _) _⟩
set_option maxHeartbeats 1000000 in
set_option maxRecDepth 100000 in
theorem odd_pos (neg : Bool) (c z : Nat) (e : Int) (w : World) (hc : c % 2 = 1) (hz : z < 64) (hm : c * 2 ^ z < 9007199254740992) (he : -10000 ≤ e ∧ e ≤ 10000) :
    Calls Tryz.prog 45 #[.bool neg, .int .u64 ((c * 2 ^ z : Nat) : Int), .int .i64 e] w fun x w' => x = .returned (.agg #[.int .i64 0, .bool neg, .int .u64 (c : Int), .int .i64 (e + (z : Int))]) ∧ Below w.heap.size w w' := by
  have hc0 : 0 < c := by omega
  have hcm : c ≤ c * 2 ^ z := Nat.le_mul_of_pos_right _ (Nat.two_pow_pos _)
  obtain ⟨m, hmm⟩ : ∃ m, c * 2 ^ z = m := ⟨_, rfl⟩
  rw [hmm] at hm hcm ⊢
  have hm0 : ((m : Int) == 0) = false := by rw [beq_eq_false_iff_ne]; omega
  have HM := Lib.hid hmm
  clear hmm
  go_enter Tryz.func45, Tryz.ntmps45
  go_wp2_with fail
  go_loopg [1, 2] z (fun f t1 t2 wx => ∃ (k M : Nat), t1 = .int .u64 (M : Int) ∧ t2 = .int .i64 (e + (k : Int)) ∧ k + f = z ∧ M = c * 2 ^ f ∧ M ≤ m ∧ wx.heap[w.heap.size]? = some (.cells #[.int .i64 0, .bool false, .int .u64 0, .int .i64 0] 24 (0, 0)) ∧ Below w.heap.size w wx)
  case atStart =>
    exact ⟨0, m, rfl, by simp, by omega, HM.out.symm, Nat.le_refl _, heap_alloc_new w _, (Below.refl _ _).alloc (Nat.le_refl _) _⟩
  case round =>
    obtain ⟨k, M, rfl, rfl, hk, hM, hMm, hX, hbx⟩ := hrel
    cases gk with
    | zero =>
      obtain rfl : M = c := by rw [hM, Nat.pow_zero, Nat.mul_one]
      have g1 : Int.tmod (M : Int) 2 = 1 := by rw [Int.tmod_eq_emod_of_nonneg (by omega)]; omega
      have g2 : (M : Int) % 2 = 1 := by omega
      obtain rfl : k = z := by omega
      have z0 := at_block hX 0 _ rfl
      have z1 := at_block hX 1 _ rfl
      have z2 := at_block hX 2 _ rfl
      have z3 := at_block hX 3 _ rfl
      have f0 := free_block hX 0
      have f1 := free_block hX 1
      have f2 := free_block hX 2
      have f3 := free_block hX 3
      have HX := Lib.hid hX
      clear hM hMm hX hc hm hcm hm0 hc0
      go_wp2_with fail
      refine bodyPost_ret (v := .agg #[.int .i64 0, .bool neg, .int .u64 (M : Int), .int .i64 (e + (k : Int))]) (by simp [results, Tryz.results45, go_sem, z0, z1, z2, z3]) rfl ?_
      refine ⟨rfl, ?_⟩
      exact (((hbx.setCell (p := ⟨w.heap.size, 0, none⟩) (Nat.le_refl _) _).setCell (p := ⟨w.heap.size, 1, none⟩) (Nat.le_refl _) _).setCell (p := ⟨w.heap.size, 2, none⟩) (Nat.le_refl _) _).setCell (p := ⟨w.heap.size, 3, none⟩) (Nat.le_refl _) _
    | succ f =>
      obtain ⟨N, hN⟩ : ∃ N, c * 2 ^ f = N := ⟨_, rfl⟩
      have hMN : M = 2 * N := by rw [hM, Nat.pow_succ, ← Nat.mul_assoc, hN, Nat.mul_comm]
      have g1 : Int.tmod (M : Int) 2 = 0 := by rw [Int.tmod_eq_emod_of_nonneg (by omega)]; omega
      have g2 : (M : Int) % 2 = 0 := by omega
      have g3 : Int.tdiv (M : Int) 2 = (N : Int) := by rw [Int.tdiv_eq_ediv_of_nonneg (by omega)]; omega
      have g4 : (M : Int) / 2 = (N : Int) := by omega
      have g5 : IntKind.u64.wrap (N : Int) = (N : Int) := by rw [IntKind.wrap_u64]; omega
      have g6 : IntKind.i64.wrap (e + (k : Int) + 1) = e + (k : Int) + 1 := IntWalk.i64_in _ (by omega)
      have HH := Lib.hid (And.intro hN (And.intro hX hMm))
      have HMN := Lib.hid hMN
      clear hM hMm hX hN hMN hm0 hcm hc0
      go_wp2_with fail
      go_roundg f
      case measure => omega
      case rel =>
        have := HMN.out
        exact ⟨k + 1, N, rfl, by congr 1; omega, by omega, HH.out.1.symm, by have := HH.out.2.2; omega, HH.out.2.1, hbx⟩
end Go.Proofs.YtjapgpmoojfhnaaGreatDoor

namespace Go.Proofs.YtjapgpmoojfhnaaGreatDoor
open Go.RowKit Go.Lib

/-- Digits, least significant first. -/
def Fl.digL (u : Nat) : List Nat := if h : u = 0 then [] else (u % 10) :: Fl.digL (u / 10)
termination_by u
decreasing_by omega
theorem Fl.digL_zero : Fl.digL 0 = [] := by rw [Fl.digL]; rfl
theorem Fl.digL_pos {u : Nat} (h : u ≠ 0) : Fl.digL u = (u % 10) :: Fl.digL (u / 10) := by rw [Fl.digL, dif_neg h]
theorem own_heap {w w' : World} {base : Nat} {e : TypeId} {v : Value} {n : Nat} {xs : List Value} (h : w.ownsRow base e 1 v n xs) (hk : ∀ k, base ≤ k → k < w.heap.size → w'.heap[k]? = w.heap[k]?) : w'.ownsRow base e 1 v n xs := by
  obtain ⟨h1, h2⟩ := h
  refine ⟨h1, ?_⟩
  rcases h2 with h2 | ⟨g, cap, cur, hv, hb, hg, hr⟩
  · exact .inl h2
  · exact .inr ⟨g, cap, cur, hv, hb, (hk g hb (lt_of_block hg)).trans hg, hr⟩
set_option maxHeartbeats 1000000 in
set_option maxRecDepth 100000 in
theorem of64_any (u : Nat) (w : World) (hu : u < 18446744073709551616) :
    Calls Tryz.prog 50 #[.int .u64 (u : Int)] w fun x w' => ∃ v, x = .returned (.agg #[.bool false, v]) ∧ w'.ownsRow (w.heap.size + 2) 5 1 v (Fl.digL u).length (u8s (Fl.digL u)) ∧ Below w.heap.size w w' := by
  obtain ⟨i0, hi, hz0, hz1, hz2⟩ := info_parts info5
  go_enter Tryz.func50, Tryz.ntmps50
  go_upto_block 0 with fail
  obtain ⟨X, hX⟩ : ∃ X, w.heap.size = X := ⟨_, rfl⟩
  obtain ⟨q1, q2⟩ : ((w.alloc (.cells #[.bool false, .slice none 0 0] 33)).alloc (.cells #[.bool false, .slice none 0 0] 33)).heap[X]? = some (.cells #[.bool false, .slice none 0 0] 33 (0, 0)) ∧ ((w.alloc (.cells #[.bool false, .slice none 0 0] 33)).alloc (.cells #[.bool false, .slice none 0 0] 33)).heap[X + 1]? = some (.cells #[.bool false, .slice none 0 0] 33 (0, 0)) := by
    refine ⟨?_, ?_⟩
    · rw [Below.heap_alloc _ _ _ (by simp; omega), ← hX]; exact heap_alloc_new w _
    · have := heap_alloc_new (w.alloc (.cells #[.bool false, .slice none 0 0] 33)) (.cells #[.bool false, .slice none 0 0] 33)
      rw [← hX]
      simpa using this
  have hb2 : Below X w ((w.alloc (.cells #[.bool false, .slice none 0 0] 33)).alloc (.cells #[.bool false, .slice none 0 0] 33)) := by rw [← hX]; exact ((Below.refl _ _).alloc (Nat.le_refl _) _).alloc (by simp) _
  have hs2 : ((w.alloc (.cells #[.bool false, .slice none 0 0] 33)).alloc (.cells #[.bool false, .slice none 0 0] 33)).heap.size = X + 2 := by rw [← hX]; simp
  obtain ⟨w2, hw2⟩ : ∃ w2, (w.alloc (.cells #[.bool false, .slice none 0 0] 33)).alloc (.cells #[.bool false, .slice none 0 0] 33) = w2 := ⟨_, rfl⟩
  rw [hw2] at q1 q2 hb2 hs2
  rw [hw2, hX]
  clear hw2
  go_wp2_with fail
  go_loopg [0] 20 (fun f t0 wx => ∃ (x : Nat) (v : Value) (acc : List Nat), t0 = .int .u64 (x : Int) ∧ x ≤ u ∧ x < 10 ^ f ∧ acc ++ Fl.digL x = Fl.digL u ∧ acc.length + f ≤ 20 ∧ wx.heap[X]? = some (.cells #[.bool false, .slice none 0 0] 33 (0, 0)) ∧ wx.heap[X + 1]? = some (.cells #[.bool false, v] 33 (0, 0)) ∧ wx.ownsRow (X + 2) 5 1 v acc.length (u8s acc) ∧ X + 2 ≤ wx.heap.size ∧ Below X w wx)
  case atStart => exact ⟨u, .slice none 0 0, [], rfl, Nat.le_refl _, by omega, rfl, by simp, q1, q2, World.ownsRow_nil _ _ _ _, by omega, hb2⟩
  case round =>
    obtain ⟨x, v, acc, rfl, hxu, hxf, hacc, hlen, hA, hB, hown, hsz, hbx⟩ := hrel
    obtain ⟨A, cp, rfl⟩ := own_form hown
    obtain ⟨n, hn⟩ : ∃ n, acc.length = n := ⟨_, rfl⟩
    rw [hn] at hown hB hlen
    have z1 := at_block hB 1 _ rfl
    by_cases hx0 : x = 0
    · subst hx0
      have hac : acc = Fl.digL u := by rw [← hacc, Fl.digL_zero, List.append_nil]
      have z0 := at_block hB 0 _ rfl
      have a0 := at_block hA 0 _ rfl
      have a1 := at_block hA 1 _ rfl
      have fa0 := free_block hA 0
      have fa1 := free_block hA 1
      have HAC := Lib.hid (And.intro hac hn)
      have HOW := Lib.hid hown
      have HHA := Lib.hid hA
      have HX := Lib.hid hX
      clear hac hacc hown hA hB hX hn
      go_wp2_with fail
      refine bodyPost_ret (v := .agg #[.bool false, .slice A n cp]) (by simp [results, Tryz.results50, go_sem, a0, a1]) rfl ?_
      rw [HX.out]
      refine ⟨_, rfl, ?_, (hbx.setCell (p := ⟨X, 0, none⟩) (Nat.le_refl _) _).setCell (p := ⟨X, 1, none⟩) (Nat.le_refl _) _⟩
      have e1 : (Fl.digL u).length = n := by rw [← HAC.out.1]; exact HAC.out.2
      rw [e1, ← HAC.out.1]
      refine own_heap HOW.out fun k hk1 _ => ?_
      rw [Below.heap_setCell _ _ _ _ (by show k ≠ X; omega), Below.heap_setCell _ _ _ _ (by show k ≠ X; omega)]
    · obtain ⟨f, rfl⟩ : ∃ f, gk = f + 1 := ⟨gk - 1, by
        rcases Nat.eq_zero_or_pos gk with h | h
        · subst h; simp at hxf; omega
        · omega⟩
      obtain ⟨d, hd⟩ : ∃ d, x % 10 = d := ⟨_, rfl⟩
      obtain ⟨y, hy⟩ : ∃ y, x / 10 = y := ⟨_, rfl⟩
      have hxp : (0 : Int) < (x : Int) := by omega
      have g1 : Int.tmod (x : Int) 10 = (d : Int) := by rw [Int.tmod_eq_emod_of_nonneg (by omega)]; omega
      have g2 : (x : Int) % 10 = (d : Int) := by omega
      have g3 : Int.tdiv (x : Int) 10 = (y : Int) := by rw [Int.tdiv_eq_ediv_of_nonneg (by omega)]; omega
      have g4 : (x : Int) / 10 = (y : Int) := by omega
      have g7 : IntKind.u64.wrap (y : Int) = (y : Int) := by rw [IntKind.wrap_u64]; omega
      have hyu : y ≤ u := by omega
      have g6 : IntKind.u8.wrap (d : Int) = (d : Int) := by rw [IntKind.wrap_u8]; omega
      have hyf : y < 10 ^ f := by rw [Nat.pow_succ] at hxf; omega
      have hacc2 : (acc ++ [d]) ++ Fl.digL y = Fl.digL u := by rw [← hacc, Fl.digL_pos hx0, hd, hy, List.append_assoc]; rfl
      have HH := Lib.hid (And.intro hacc2 (And.intro hyf hn))
      have HHA := Lib.hid hA
      have HHB := Lib.hid hB
      have HX := Lib.hid hX
      clear hd hy hacc hacc2 hxf hyf hn hA hB hX hx0
      go_wp2_with (at_builtin; refine wpList_append_own _ rfl _ _ 31 rfl (X + 2) 5 i0 (.int .u8 0) 1 1 Tryz.underlying31 hi hz0 hz1 hz2 rfl (by decide) _ _ _ rfl (hown.alloc _) ⟨wr.heap.size, 0, none⟩ 1 1 [.int .u8 (d : Int)] rfl rfl ?c1 ?c2 ?c3 ?c4 ?c5 ?_)
      case c1 =>
        intro j u' hj
        match j, hj with
        | 0, hj => simp at hj; subst hj; simp [Addr.add]
      case c2 => intro u' hu'; simp at hu'; subst hu'; rfl
      case c3 => unfold maxLen; omega
      case c4 => omega
      case c5 => simp; omega
      intro v' w3 hown3 hgr3 _
      have hb3 : Below (X + 2) wr w3 := ((Below.refl _ _).alloc (by omega) _).grown hgr3 (by simp; omega) (fun k hk => (hown.lt k hk).1)
      obtain ⟨A', cp', rfl⟩ := own_form hown3
      have hB3 := (hb3.block (X + 1) (by omega)).trans HHB.out
      have hA3 := (hb3.block X (by omega)).trans HHA.out
      have y1 := at_block hB3 1 _ rfl
      have fy1 := free_block hB3 1
      have HB3 := Lib.hid hB3
      have HA3 := Lib.hid hA3
      have HOW3 := Lib.hid hown3
      clear hgr3 hown hown3 hB3 hA3 z1
      go_wp2_with fail
      go_roundg f
      case measure => omega
      case rel =>
        have k1 := HH.out.2.2
        refine ⟨y, .slice A' (n + 1) cp', acc ++ [d], rfl, hyu, HH.out.2.1, HH.out.1, by rw [List.length_append, k1]; simp; omega, ?_, ?_, ?_, ?_, ?_⟩
        · rw [Below.heap_setCell _ _ _ _ (show X ≠ X + 1 by omega)]; exact HA3.out
        · exact block_set HB3.out 1 _
        · have h := own_heap (w' := w3.setCell ⟨X + 1, 1, none⟩ (.slice A' (n + 1) cp')) HOW3.out (fun k hk1 _ => by rw [Below.heap_setCell _ _ _ _ (show k ≠ X + 1 by omega)])
          rw [List.length_append, k1]
          have e : u8s (acc ++ [d]) = u8s acc ++ [.int .u8 (d : Int)] := by simp [u8s]
          rw [e]
          exact h
        · have := hb3.size; simp [World.setCell]; omega
        · exact (hbx.trans (hb3.mono (by omega))).setCell (p := ⟨X + 1, 1, none⟩) (by show X ≤ X + 1; omega) _
end Go.Proofs.YtjapgpmoojfhnaaGreatDoor
