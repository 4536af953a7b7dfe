/- The reference: FromBits at 64 bits. The reference's text of a word's float is the canonical text; Bitlen. The reference: Bits at 64 bits, of a float that is not negative. The reference: place. The reference: Cmp. Valid at the two texts of the example. The formats. order of digits. canonical at a number that is not negative. The numbers of the example: the smallest positive .. -/
import Derived.Test.YtjapgpmoojfhnaaGreatDoorB14
set_option maxHeartbeats 16000000
set_option maxRecDepth 100000
set_option linter.unusedSimpArgs false
set_option linter.unusedVariables false
namespace Go.Proofs.YtjapgpmoojfhnaaGreatDoor
open Go.RowKit Go.Lib
namespace Fl
def refF (b : Nat) : Value :=
 if 9218868437227405312 < b % 9223372036854775808 then .agg #[.int .i64 2, .bool false, .int .u64 0, .int .i64 0] else
 if b % 9223372036854775808 = 9218868437227405312 then .agg #[.int .i64 1, .bool (decide (9223372036854775808 ≤ b)), .int .u64 0, .int .i64 0] else
 if b % 9223372036854775808 = 0 then .agg #[.int .i64 0, .bool (decide (9223372036854775808 ≤ b)), .int .u64 0, .int .i64 0] else
 .agg #[.int .i64 0, .bool (decide (9223372036854775808 ≤ b)), .int .u64 (om (b % 9223372036854775808) : Int), .int .i64 (oe (b % 9223372036854775808))]
end Fl
end Go.Proofs.YtjapgpmoojfhnaaGreatDoor
namespace Go.Proofs.YtjapgpmoojfhnaaGreatDoor
open Go.RowKit Go.Lib
theorem sgn_same (b : Nat) : sgnS (decide (9223372036854775808 ≤ b)) = Fl.sgB b := by
 unfold sgnS Fl.sgB
 by_cases h : 9223372036854775808 ≤ b
 · rw [decide_eq_true h, if_pos rfl, if_pos h]
 · rw [decide_eq_false h, if_neg (by simp), if_neg h]
theorem reftext_any (b : Nat) (w : World) : Calls Tryz.prog 15 #[Fl.refF b] w fun x w' => x = .returned (.string ⟨(Fl.txt b).toArray⟩) ∧ Below w.heap.size w w' := by
 unfold Fl.refF Fl.txt
 by_cases h1 : 9218868437227405312 < b % 9223372036854775808
 · rw [if_pos h1, if_pos h1]
   exact floattext_nan 0 0 w
 · rw [if_neg h1, if_neg h1]
   by_cases h2 : b % 9223372036854775808 = 9218868437227405312
   · rw [if_pos h2, if_pos h2, ← sgn_same]
     exact floattext_inf _ 0 0 w
   · rw [if_neg h2, if_neg h2]
     by_cases h3 : b % 9223372036854775808 = 0
     · rw [if_pos h3, if_pos h3, ← sgn_same]
       have h := floattext_num (decide (9223372036854775808 ≤ b)) 0 0 w (by omega) (by omega)
       have e : decDigits 0 ++ 112 :: itoa 0 = [48, 112, 48] := by
        rw [show itoa 0 = decDigits 0 from itoa_nonneg 0, decDigits_one (by omega)]
        rfl
       rw [e] at h
       exact h
     · rw [if_neg h3, if_neg h3, ← sgn_same]
       have h0 : 0 < b % 9223372036854775808 := by omega
       obtain ⟨_, _, _, a4⟩ := Fl.om_spec h0
       obtain ⟨_, b2, b3, _⟩ := Fl.om_bounds h0 (by omega)
       exact floattext_num _ (Fl.om (b % 9223372036854775808)) (Fl.oe (b % 9223372036854775808)) w (by omega) (by omega)
theorem bitlen_any (m : Nat) (w : World) (hm : m < 18446744073709551616) : Calls Tryz.prog 69 #[.int .u64 (m : Int)] w fun x w' => x = .returned (.int .i64 (Lib.bitLen m : Nat)) ∧ w' = w := by
 go_enter Tryz.func69, Tryz.ntmps69
 go_wp2_with fail
 go_loopg [0, 3] 64 (fun f t0 t3 wx => ∃ (x k : Nat), t0 = .int .u64 (x : Int) ∧ t3 = .int .i64 (k : Int) ∧ x < 2 ^ f ∧ x ≤ m ∧ k + f ≤ 64 ∧ k + Lib.bitLen x = Lib.bitLen m ∧ wx = w)
 case atStart => exact ⟨m, 0, rfl, rfl, by omega, Nat.le_refl _, by omega, by omega, rfl⟩
 case round =>
  obtain ⟨x, k, rfl, rfl, hxf, hxm, hkf, hk, rfl⟩ := hrel
  have HK := Lib.hid hk
  have HF := Lib.hid hxf
  clear hk hxf
  by_cases hx : x = 0
  · subst hx
    go_wp2_with fail
    go_ret
    refine ⟨?_, rfl⟩
    have h := HK.out
    have e : Lib.bitLen 0 = 0 := by decide
    rw [e] at h
    rw [← h]
    rfl
  · obtain ⟨f, rfl⟩ : ∃ f, gk = f + 1 := ⟨gk - 1, by
     rcases Nat.eq_zero_or_pos gk with h | h
     · have := HF.out; subst h; simp at this; omega
     · omega⟩
    have hxp : (0 : Int) < (x : Int) := by omega
    obtain ⟨y, hy⟩ : ∃ y, x / 2 = y := ⟨_, rfl⟩
    have g4 : (x : Int) / 2 = (y : Int) := by omega
    have g7 : IntKind.u64.wrap (y : Int) = (y : Int) := by rw [IntKind.wrap_u64]; omega
    have g8 : IntKind.i64.wrap ((k : Int) + 1) = (k : Int) + 1 := IntWalk.i64_in _ (by omega)
    have hym : y ≤ m := by omega
    have hyf : y < 2 ^ f := by have := HF.out; rw [Nat.pow_succ] at this; omega
    have hh := Lib.bitLen_half x hx (by omega)
    rw [hy] at hh
    have HH := Lib.hid (And.intro hh hyf)
    clear hh hyf hy hx
    go_wp2_with fail
    go_roundg f
    case measure => omega
    case rel =>
     have h1 := HK.out
     have h2 := HH.out.1
     exact ⟨y, k + 1, rfl, by go_num, HH.out.2, hym, by omega, by omega, rfl⟩
theorem fits_two (w : World) : Calls Tryz.prog 83 #[.int .u64 2, .int .i64 0] w fun x w' => x = .returned (.bool false) ∧ w' = w := by
 have LN : ∀ W, ∃ L, Calls Tryz.prog 67 #[.int .u64 2] W fun e w' => e = .returned (.int .i64 L) ∧ w' = W := fun W => ⟨_, Tryz.bits_Len64 2 W (by decide) (by decide)⟩
 obtain ⟨L, hL⟩ := LN w
 have LN := Lib.hid hL
 clear hL
 go_enter Tryz.func83, Tryz.ntmps83
 go_wp2_with fail
 refine (LN.out).mono ?_
 rintro x w1 ⟨rfl, rfl⟩
 go_wp2_with fail
 go_ret
 exact ⟨rfl, rfl⟩
theorem parse_two (w : World) (hL : Laid w) : Calls Tryz.prog 58 #[.string ⟨#[50, 112, 48]⟩] w fun x w' => x = .returned (.tuple #[.float .f64 0, .bool false]) ∧ Below w.heap.size w w' := by
 have CP : ∀ W, Calls Tryz.prog 102 #[.string ⟨#[50, 112, 48]⟩, .string ⟨#[45]⟩] W fun e w' => e = .returned (.tuple #[.string ⟨#[50, 112, 48]⟩, .bool false]) ∧ w' = W := fun W => Tryz.strings_CutPrefix ⟨#[50, 112, 48]⟩ ⟨#[45]⟩ W
 have CU : ∀ W, Laid W → Calls Tryz.prog 48 #[.string ⟨#[50, 112, 48]⟩, .string ⟨#[112]⟩] W fun x w' => x = .returned (.tuple #[.string ⟨#[50]⟩, .string ⟨#[48]⟩, .bool true]) ∧ Below W.heap.size W w' := fun W hW => by
  obtain ⟨mm, hmm⟩ := hW.2.2.2.2.2.1
  have h := Tryz.strings_Cut ⟨#[50, 112, 48]⟩ ⟨#[112]⟩ mm W (by decide) hmm
  have hc : Lib.cut (⟨#[50, 112, 48]⟩ : ByteArray).data.toList (⟨#[112]⟩ : ByteArray).data.toList = ([50], [48], true) := by decide
  rw [hc] at h
  refine h.mono ?_
  rintro x w' ⟨rfl, n, rfl⟩
  exact ⟨rfl, below_drewN (Below.refl _ _) n⟩
 have PU := Lib.hid (fun W => uint_ok ⟨#[50]⟩ (by decide) 2 (by decide) W)
 have AT := Lib.hid (fun W => atoi_ok ⟨#[48]⟩ (by decide) 0 (by decide) W)
 have FI := Lib.hid (fun W => fits_two W)
 have CP := Lib.hid CP
 have CU := Lib.hid CU
 have HL := Lib.hid hL
 clear hL
 go_enter Tryz.func58, Tryz.ntmps58
 go_wp2_with fail
 refine (CP.out _).mono ?_
 rintro x w1 ⟨rfl, rfl⟩
 go_wp2_with fail
 refine (CU.out _ HL.out).mono ?_
 rintro x w2 ⟨rfl, hb2⟩
 go_wp2_with fail
 refine (PU.out _).mono ?_
 rintro x w3 ⟨rfl, hb3⟩
 have hb3 := hb2.trans (hb3.mono hb2.size)
 go_wp2_with fail
 refine (AT.out _).mono ?_
 rintro x w4 ⟨rfl, hb4⟩
 have hb4 := hb3.trans (hb4.mono hb3.size)
 go_wp2_with fail
 refine (FI.out _).mono ?_
 rintro x w5 ⟨rfl, rfl⟩
 go_wp2_with fail
 go_ret2
 exact ⟨rfl, hb4⟩
theorem valid_of (s : ByteArray) (f : Nat) (ok : Bool) (w : World) (hp : Calls Tryz.prog 58 #[.string s] w fun x w' => x = .returned (.tuple #[.float .f64 f, .bool ok]) ∧ Below w.heap.size w w') :
 Calls Tryz.prog 34 #[.string s] w fun x w' => x = .returned (.bool ok) ∧ Below w.heap.size w w' := by
 have HP := Lib.hid hp
 clear hp
 go_enter Tryz.func34, Tryz.ntmps34
 go_wp2_with fail
 refine (HP.out).mono ?_
 rintro x w1 ⟨rfl, hb1⟩
 go_wp2_with fail
 go_ret
 exact ⟨rfl, hb1⟩
theorem of_64 (w : World) (hL : Laid w) : Calls Tryz.prog 61 #[.int .i64 64] w fun x w' => x = .returned (.tuple #[.agg #[.int .i64 64, .int .i64 53, .int .i64 (-1074)], .bool true]) ∧ Below w.heap.size w w' := by
 obtain ⟨w1, hw1⟩ : ∃ w1 : World, w.alloc (.cells #[.int .i64 0, .int .i64 0, .int .i64 0] 109) = w1 := ⟨_, rfl⟩
 obtain ⟨X, hX⟩ : ∃ X, w.heap.size = X := ⟨_, rfl⟩
 have hXc := heap_alloc_new w (.cells #[.int .i64 0, .int .i64 0, .int .i64 0] 109)
 rw [hw1, hX] at hXc
 have hb1 : Below w.heap.size w w1 := by rw [← hw1]; exact (Below.refl _ _).alloc (Nat.le_refl _) _
 have hL1 := hL.on hb1
 have hF := hL1.2.2.2.2.2.2
 have a0 := hF 0 16 rfl
 have a1 := hF 1 11 rfl
 have a2 := hF 2 (-24) rfl
 have a3 := hF 3 32 rfl
 have a4 := hF 4 24 rfl
 have a5 := hF 5 (-149) rfl
 have a6 := hF 6 64 rfl
 have a7 := hF 7 53 rfl
 have a8 := hF 8 (-1074) rfl
 have x0 := at_block hXc 0 _ rfl
 have x1 := at_block hXc 1 _ rfl
 have x2 := at_block hXc 2 _ rfl
 have f0 := free_block hXc 0
 have f1 := free_block hXc 1
 have f2 := free_block hXc 2
 have HW1 := Lib.hid hw1
 have HX := Lib.hid hX
 have hX18 : 18 ≤ X := by rw [← hX]; exact hL.2.1
 rw [hX] at hb1
 clear hw1 hX hXc hL hL1 hF
 go_enter Tryz.func61, Tryz.ntmps61
 go_upto_region 1 with fail
 rw [HW1.out, HX.out]
 go_wp2_with fail
 go_loopg [4, 5] 3 (fun f _ t5 wx => ∃ k : Nat, t5 = .int .i64 (k : Int) ∧ k + f = 3 ∧ k ≤ 2 ∧ wx = w1)
 case atStart => exact ⟨0, rfl, rfl, by omega, rfl⟩
 case round =>
  obtain ⟨k, rfl, hk, hk2, rfl⟩ := hrel
  have hk3 : k = 0 ∨ k = 1 ∨ k = 2 := by omega
  rcases hk3 with rfl | rfl | rfl
  · obtain rfl : gk = 3 := by omega
    go_wp2_with fail
    go_roundg 2
    case measure => omega
    case rel => exact ⟨1, rfl, rfl, by omega, rfl⟩
  · obtain rfl : gk = 2 := by omega
    go_wp2_with fail
    go_roundg 1
    case measure => omega
    case rel => exact ⟨2, rfl, rfl, by omega, rfl⟩
  · obtain rfl : gk = 1 := by omega
    go_wp2_with fail
    refine bodyPost_ret (v := .tuple #[.agg #[.int .i64 64, .int .i64 53, .int .i64 (-1074)], .bool true]) (by simp [results, Tryz.results61, go_sem, x0, x1, x2]) rfl ?_
    refine ⟨rfl, ?_⟩
    rw [HX.out]
    exact ((hb1.setCell (p := ⟨X, 0, none⟩) (Nat.le_refl _) _).setCell (p := ⟨X, 1, none⟩) (Nat.le_refl _) _).setCell (p := ⟨X, 2, none⟩) (Nat.le_refl _) _
theorem of_16 (w : World) (hL : Laid w) : Calls Tryz.prog 61 #[.int .i64 16] w fun x w' => x = .returned (.tuple #[.agg #[.int .i64 16, .int .i64 11, .int .i64 (-24)], .bool true]) ∧ Below w.heap.size w w' := by
 obtain ⟨w1, hw1⟩ : ∃ w1 : World, w.alloc (.cells #[.int .i64 0, .int .i64 0, .int .i64 0] 109) = w1 := ⟨_, rfl⟩
 obtain ⟨X, hX⟩ : ∃ X, w.heap.size = X := ⟨_, rfl⟩
 have hXc := heap_alloc_new w (.cells #[.int .i64 0, .int .i64 0, .int .i64 0] 109)
 rw [hw1, hX] at hXc
 have hb1 : Below w.heap.size w w1 := by rw [← hw1]; exact (Below.refl _ _).alloc (Nat.le_refl _) _
 have hL1 := hL.on hb1
 have hF := hL1.2.2.2.2.2.2
 have a0 := hF 0 16 rfl
 have a1 := hF 1 11 rfl
 have a2 := hF 2 (-24) rfl
 have a3 := hF 3 32 rfl
 have a4 := hF 4 24 rfl
 have a5 := hF 5 (-149) rfl
 have a6 := hF 6 64 rfl
 have a7 := hF 7 53 rfl
 have a8 := hF 8 (-1074) rfl
 have x0 := at_block hXc 0 _ rfl
 have x1 := at_block hXc 1 _ rfl
 have x2 := at_block hXc 2 _ rfl
 have f0 := free_block hXc 0
 have f1 := free_block hXc 1
 have f2 := free_block hXc 2
 have HW1 := Lib.hid hw1
 have HX := Lib.hid hX
 have hX18 : 18 ≤ X := by rw [← hX]; exact hL.2.1
 rw [hX] at hb1
 clear hw1 hX hXc hL hL1 hF
 go_enter Tryz.func61, Tryz.ntmps61
 go_upto_region 1 with fail
 rw [HW1.out, HX.out]
 go_wp2_with fail
 go_loopg [4, 5] 3 (fun f _ t5 wx => ∃ k : Nat, t5 = .int .i64 (k : Int) ∧ k + f = 3 ∧ k ≤ 0 ∧ wx = w1)
 case atStart => exact ⟨0, rfl, rfl, by omega, rfl⟩
 case round =>
  obtain ⟨k, rfl, hk, hk2, rfl⟩ := hrel
  obtain rfl : k = 0 := by omega
  obtain rfl : gk = 3 := by omega
  go_wp2_with fail
  refine bodyPost_ret (v := .tuple #[.agg #[.int .i64 16, .int .i64 11, .int .i64 (-24)], .bool true]) (by simp [results, Tryz.results61, go_sem, x0, x1, x2]) rfl ?_
  refine ⟨rfl, ?_⟩
  rw [HX.out]
  exact ((hb1.setCell (p := ⟨X, 0, none⟩) (Nat.le_refl _) _).setCell (p := ⟨X, 1, none⟩) (Nat.le_refl _) _).setCell (p := ⟨X, 2, none⟩) (Nat.le_refl _) _
def ordB (a b : ByteArray) : Int := if a.size = b.size then Lib.compareBytes a.data.toList b.data.toList else (a.size : Int) - (b.size : Int)
theorem order_any (a b : ByteArray) (w : World) (ha : a.size ≤ 1073741824) (hb : b.size ≤ 1073741824) : Calls Tryz.prog 75 #[.string a, .string b] w fun x w' => x = .returned (.int .i64 (ordB a b)) ∧ w' = w := by
 have CM := Lib.hid (fun W => Tryz.strings_Compare a b W)
 unfold ordB
 by_cases h : a.size = b.size
 · rw [if_pos h]
   have c1 : ((a.size : Int) != (b.size : Int)) = false := by rw [h]; simp
   obtain ⟨k, hk⟩ : ∃ k, Lib.compareBytes a.data.toList b.data.toList = k := ⟨_, rfl⟩
   rw [hk] at CM ⊢
   clear h hk ha hb
   go_enter Tryz.func75, Tryz.ntmps75
   go_wp2_with fail
   refine (CM.out _).mono ?_
   rintro x w1 ⟨rfl, rfl⟩
   go_wp2_with fail
   go_ret
   exact ⟨rfl, rfl⟩
 · rw [if_neg h]
   have c1 : ((a.size : Int) != (b.size : Int)) = true := by rw [bne_iff_ne]; omega
   have g1 : IntKind.i64.wrap ((a.size : Int) - (b.size : Int)) = (a.size : Int) - (b.size : Int) := IntWalk.i64_in _ (by omega)
   clear h ha hb
   go_enter Tryz.func75, Tryz.ntmps75
   go_wp2_with fail
   go_ret
   exact ⟨rfl, rfl⟩
theorem canonical_any (s T : ByteArray) (e x : Int) (w : World) (hs : s.size ≤ 100000) (hT : (⟨(Lib.trimRightB s.data.toList 48).toArray⟩ : ByteArray) = T) (hTs : T.size ≤ 100000) (he : -1000000 ≤ e ∧ e ≤ 1000000) (hx : e + (s.size : Int) - (T.size : Int) = x) (hxi : (itoa x).length ≤ 100) (hL : Laid w) :
 Calls Tryz.prog 79 #[.bool false, .string s, .int .i64 e] w fun z w' => z = .returned (.string (T ++ ⟨#[101]⟩ ++ ⟨(itoa x).toArray⟩)) ∧ Below w.heap.size w w' := by
 have TR : ∀ W, Calls Tryz.prog 124 #[.string s, .string ⟨#[48]⟩] W fun z w' => z = .returned (.string T) ∧ w' = W := fun W => by
  have h := Tryz.strings_TrimRight_one s 48 (by decide) W (by omega)
  rw [hT] at h
  exact h
 have g1 : IntKind.i64.wrap (e + (s.size : Int)) = e + (s.size : Int) := IntWalk.i64_in _ (by omega)
 have g2 : IntKind.i64.wrap (e + (s.size : Int) - (T.size : Int)) = x := by rw [← hx]; exact IntWalk.i64_in _ (by omega)
 have IT := fun W hW => itoa_any x (by omega) (by omega) W hW
 obtain ⟨I, hI⟩ : ∃ I : ByteArray, ⟨(itoa x).toArray⟩ = I := ⟨_, rfl⟩
 have hIs : I.size ≤ 100 := by rw [← hI]; exact hxi
 rw [hI] at IT ⊢
 have hadd1 := fun W => run_string_add_sum (P := Tryz.prog) (w := W) T ⟨#[101]⟩ (by show T.size + 1 ≤ _; omega)
 have hadd2 := fun W => run_string_add_sum (P := Tryz.prog) (w := W) (T ++ ⟨#[101]⟩) I (by rw [ByteArray.size_append]; show T.size + 1 + I.size ≤ _; omega)
 have TR := Lib.hid TR
 have IT := Lib.hid IT
 have HL := Lib.hid hL
 clear hI hIs hT hTs hs he hx hxi hL
 go_enter Tryz.func79, Tryz.ntmps79
 go_wp2_with fail
 refine (TR.out _).mono ?_
 rintro z w1 ⟨rfl, rfl⟩
 go_wp2_with fail
 refine (IT.out _ HL.out).mono ?_
 rintro z w2 ⟨rfl, hb2⟩
 go_wp2_with fail
 go_ret
 exact ⟨rfl, hb2⟩
end Go.Proofs.YtjapgpmoojfhnaaGreatDoor
namespace Go.Proofs.YtjapgpmoojfhnaaGreatDoor.Fl
open Go.Lib
theorem dec_split : ∀ (k u : Nat), 10 ^ k ≤ u → decDigits u = decDigits (u / 10 ^ k) ++ digB8 (fixL k u).reverse
 | 0, u, _ => by simp [fixL, digB8]
 | k + 1, u, h => by
   have h1 : 10 ^ k ≤ u / 10 := by rw [Nat.le_div_iff_mul_le (by decide), ← Nat.pow_succ]; exact h
   have hp : 0 < 10 ^ k := Nat.pow_pos (n := k) (show 0 < 10 by decide)
   have ih := dec_split k (u / 10) h1
   rw [decDigits, dif_neg (by omega), ih, fixL, Nat.div_div_eq_div_mul, Nat.pow_succ, Nat.mul_comm 10]
   simp [digB8]
def exV : Nat := 4 * 5 ^ 1076
def exLo : Nat := 2 * 5 ^ 1076
def exHi : Nat := 6 * 5 ^ 1076
def exT : Nat := 10 ^ 751
theorem ex_facts : (decide (exT ≤ exV) && decide (exT ≤ exLo) && decide (exT ≤ exHi) && exV / exT == 49 && exLo / exT == 24 && exHi / exT == 74) = true := by kernel_rfl
theorem ex_of : exT ≤ exV ∧ exT ≤ exLo ∧ exT ≤ exHi ∧ exV / exT = 49 ∧ exLo / exT = 24 ∧ exHi / exT = 74 := by
 have h := ex_facts
 simp only [Bool.and_eq_true, decide_eq_true_eq, beq_iff_eq] at h
 obtain ⟨⟨⟨⟨⟨h1, h2⟩, h3⟩, h4⟩, h5⟩, h6⟩ := h
 exact ⟨h1, h2, h3, h4, h5, h6⟩
theorem dec_two {a : Nat} (h0 : 10 ≤ a) (h : a < 100) : decDigits a = [UInt8.ofNat (48 + a / 10), UInt8.ofNat (48 + a % 10)] := by
 rw [decDigits, dif_neg (by omega), decDigits, dif_pos (by omega)]
 rfl
theorem ex_head {u a : Nat} (h : exT ≤ u) (ha : u / exT = a) (h0 : 10 ≤ a) (h1 : a < 100) : ∃ l, decDigits u = UInt8.ofNat (48 + a / 10) :: UInt8.ofNat (48 + a % 10) :: l ∧ l.length = 751 := by
 obtain ⟨K, hK⟩ : ∃ K, K = 751 := ⟨_, rfl⟩
 unfold exT at h ha
 rw [← hK] at h ha ⊢
 have e := dec_split K u h
 rw [ha, dec_two h0 h1] at e
 exact ⟨_, e, by simp [digB8, fix_len]⟩
theorem ex_texts : ∃ v lo hi : List UInt8, decDigits exV = 52 :: 57 :: v ∧ decDigits exLo = 50 :: 52 :: lo ∧ decDigits exHi = 55 :: 52 :: hi ∧ v.length = 751 ∧ lo.length = 751 ∧ hi.length = 751 := by
 obtain ⟨h1, h2, h3, h4, h5, h6⟩ := ex_of
 obtain ⟨v, a1, a2⟩ := ex_head h1 h4 (by decide) (by decide)
 obtain ⟨lo, b1, b2⟩ := ex_head h2 h5 (by decide) (by decide)
 obtain ⟨hi, c1, c2⟩ := ex_head h3 h6 (by decide) (by decide)
 exact ⟨v, lo, hi, a1, b1, c1, a2, b2, c2⟩
theorem ex_pow {K : Nat} (h : K = 1076) : 4 * 5 ^ K = exV ∧ 2 * 5 ^ K = exLo ∧ 6 * 5 ^ K = exHi := by
 subst h
 unfold exV exLo exHi
 exact ⟨rfl, rfl, rfl⟩
end Go.Proofs.YtjapgpmoojfhnaaGreatDoor.Fl
