/- The law BinaryDecimals returns true for every word. The law BinaryDecimals returns true for every word. -/
import Derived.Test.YtjapgpmoojfhnaaGreatDoorB28
namespace Go.Proofs.YtjapgpmoojfhnaaGreatDoor
open Go.RowKit Go.Lib

theorem readP_exp {c : Nat} {E : Int} (hc : c % 10 ≠ 0) (hl : (decDigits c).length ≤ 400) (h0 : -2000 ≤ E) (h1 : E ≤ 2000) (g : Bool) : (Dc.readP (Fl.expB g c E)).isSome = true := by
  have hc0 : c ≠ 0 := by omega
  obtain ⟨y, l, h4, h5⟩ := Fl.digL_head hc0
  have hne : (Fl.digL c).reverse ≠ [] := by rw [h4]; simp
  have hlen : (Fl.digL c).reverse.length ≤ 400 := by rw [List.length_reverse, ← Fl.dec_length hc0]; exact hl
  have hlast : ∀ u, (Fl.digL c).reverse.getLast? = some u → u ≠ 0 := fun u hu => by
    rw [List.getLast?_reverse, Fl.digL_pos (by omega)] at hu
    simp at hu
    omega
  have hh : Dc.readP (Fl.expB g c E) = some ⟨g, (Fl.digL c).reverse, E⟩ := by
    rw [Dc.readP_iff]
    refine ⟨⟨⟨Fl.digL_digs hc0, fun h => absurd h hne, fun u hu => ?_, hlast⟩, Dc.limit_ok.2 ⟨hlen, h0, h1⟩⟩, ?_⟩
    · have hu' : (Fl.digL c).reverse.head? = some u := hu
      rw [h4] at hu'
      simp at hu'
      omega
    · unfold Dc.showB Dc.coefB Fl.expB
      simp only
      rw [if_neg hne, Fl.dec_is hc0]
      rfl
  rw [hh]
  rfl
theorem readP_nought : (Dc.readP [48, 101, 48]).isSome = true := by
  have hh : Dc.readP [48, 101, 48] = some ⟨false, [], 0⟩ := by
    rw [Dc.readP_iff]
    refine ⟨⟨⟨fun x hx => by (cases hx), fun _ => ⟨rfl, rfl⟩, fun u hu => by (cases hu), fun u hu => by (cases hu)⟩, Dc.limit_ok.2 ⟨by decide, by decide, by decide⟩⟩, ?_⟩
    unfold Dc.showB Dc.coefB
    rw [if_pos rfl, show itoa 0 = [48] by kernel_rfl]
    rfl
  rw [hh]
  rfl
theorem refF_num (b : Nat) (h0 : 0 < b % 9223372036854775808) (hr : b % 9223372036854775808 < 9218868437227405312) : Fl.refF b = .agg #[.int .i64 0, .bool (decide (9223372036854775808 ≤ b)), .int .u64 (Fl.om (b % 9223372036854775808) : Int), .int .i64 (Fl.oe (b % 9223372036854775808))] := by
  unfold Fl.refF
  rw [if_neg (by omega), if_neg (by omega), if_neg (by omega)]
theorem refF_zero (b : Nat) (h0 : b % 9223372036854775808 = 0) : Fl.refF b = .agg #[.int .i64 0, .bool (decide (9223372036854775808 ≤ b)), .int .u64 0, .int .i64 0] := by
  unfold Fl.refF
  rw [if_neg (by omega), if_neg (by omega), if_pos h0]
theorem refF_kind (b : Nat) (hr : 9218868437227405312 ≤ b % 9223372036854775808) : ∃ (k : Int) (n : Bool) (m e : Int), 0 < k ∧ Fl.refF b = .agg #[.int .i64 k, .bool n, .int .u64 m, .int .i64 e] := by
  unfold Fl.refF
  by_cases h1 : 9218868437227405312 < b % 9223372036854775808
  · rw [if_pos h1]; exact ⟨_, _, _, _, by decide, rfl⟩
  · rw [if_neg h1, if_pos (by omega)]; exact ⟨_, _, _, _, by decide, rfl⟩
/-- The text of a number's digits. -/
theorem digits_text (A : Option Addr) (n cc c : Nat) (hc : c ≠ 0) (hn : n ≤ 100000) (w : World) (hr : Reads w w.heap.size A n (u8s (Fl.digL c))) :
    Calls Tryz.prog 19 #[.agg #[.bool false, .slice A n cc]] w fun x w' => x = .returned (.string ⟨(decDigits c).toArray⟩) ∧ Below w.heap.size w w' := by
  obtain ⟨a1, a2, a3, _, _⟩ := Fl.digL_facts hc
  have hl := hr.1
  rw [u8s_len] at hl
  have h := inttext_any false A n cc (Fl.digL c) w hr a3 hn (by omega)
  rw [Fl.intN_is hc] at h
  exact h
/-- Exact at a float. -/
theorem exact17_any (r c z : Nat) (h0 : 0 < r) (hr : r < 9218868437227405312) (h : Fl.Exp10 r c z) (w : World) :
    Calls Tryz.prog 17 #[.int .u64 (Fl.om r : Int), .int .i64 (Fl.oe r)] w fun x w' => (∃ A cc, Reads w' w'.heap.size A (Fl.digL c).length (u8s (Fl.digL c)) ∧ x = .returned (.tuple #[.agg #[.bool false, .slice A (Fl.digL c).length cc], .int .i64 (Fl.xE r + z)])) ∧ Below w.heap.size w w' := by
  have hc : c ≠ 0 := by have := h.pos; omega
  obtain ⟨n, h1, h2, h3⟩ := Fl.dec_bounds hc
  obtain ⟨p1, p2, p3, p4⟩ := h.place h0 hr h2 h3
  obtain ⟨_, b1, b2, _⟩ := Fl.om_bounds h0 hr
  obtain ⟨_, _, m1, m2⟩ := Fl.om_spec h0
  have hbig : c * 10 ^ z < 10 ^ 2000 := by
    obtain ⟨K, hK⟩ : ∃ K, K = 2000 := ⟨_, rfl⟩
    rw [← hK]
    have a : c * 10 ^ z < 10 ^ (n + 1) * 10 ^ z := Nat.mul_lt_mul_of_pos_right h3 (Nat.pow_pos (by decide))
    rw [← Nat.pow_add] at a
    exact Nat.lt_of_lt_of_le a (Nat.pow_le_pow_right (by decide) (by omega))
  by_cases hE : 0 ≤ Fl.oe r
  · obtain ⟨k, hk⟩ : ∃ k : Nat, Fl.oe r = (k : Int) := ⟨(Fl.oe r).toNat, by omega⟩
    have hv := h.nonneg hE
    rw [hk, Int.toNat_natCast] at hv
    have hx : Fl.xE r + z = (z : Int) := by unfold Fl.xE; omega
    rw [hk, hx]
    refine (exact17_pos (Fl.om r) k c z w (by omega) m1 (by omega) (by rw [← hv]; exact hbig) hv.symm h.odd (by omega)).mono ?_
    rintro x w' ⟨⟨A, n', cc, _, hrr, rfl⟩, hb⟩
    have hl := hrr.1
    rw [u8s_len] at hl
    subst hl
    exact ⟨⟨A, cc, hrr, rfl⟩, hb⟩
  · obtain ⟨k, hk⟩ : ∃ k : Nat, Fl.oe r = -(k : Int) := ⟨(-Fl.oe r).toNat, by omega⟩
    have hv := h.fac
    unfold Fl.xN at hv
    rw [if_neg hE, hk, Int.neg_neg, Int.toNat_natCast] at hv
    have hx : Fl.xE r + z = -(k : Int) + (z : Int) := by unfold Fl.xE; omega
    rw [hk, hx]
    refine (exact17_neg (Fl.om r) k c z w (by omega) m1 (by omega) (by omega) (by rw [hv]; exact hbig) hv h.odd (by omega)).mono ?_
    rintro x w' ⟨⟨A, n', cc, _, hrr, rfl⟩, hb⟩
    have hl := hrr.1
    rw [u8s_len] at hl
    subst hl
    exact ⟨⟨A, cc, hrr, rfl⟩, hb⟩
theorem d3_num (b : Nat) (B : Nat × Nat) (hb : b < 18446744073709551616) (h0 : 0 < b % 9223372036854775808) (hr : b % 9223372036854775808 < 9218868437227405312) {c z : Nat} (h : Fl.Exp10 (b % 9223372036854775808) c z) (hl : (decDigits c).length ≤ 400) :
    D3 b B (decide (9223372036854775808 ≤ b)) (decide (9223372036854775808 ≤ b)) (Fl.om (b % 9223372036854775808)) (Fl.oe (b % 9223372036854775808)) (Fl.xE (b % 9223372036854775808) + z) ⟨(Fl.txt b).toArray⟩
      ⟨(Fl.expB (decide (9223372036854775808 ≤ b)) c (Fl.xE (b % 9223372036854775808) + z)).toArray⟩ ⟨(decDigits c).toArray⟩ ⟨(Fl.txt b).toArray⟩ (Fl.digL c).length := by
  have hc : c ≠ 0 := by have := h.pos; omega
  obtain ⟨n, h1, h2, h3⟩ := Fl.dec_bounds hc
  obtain ⟨p1, p2, p3, p4⟩ := h.place h0 hr h2 h3
  obtain ⟨_, _, m1, m2⟩ := Fl.om_spec h0
  have hE2 : Fl.xE (b % 9223372036854775808) + z ≤ 2000 := by unfold Fl.xE at *; omega
  have hT := h.txt h0 hr (decide (9223372036854775808 ≤ b)) hl
  obtain ⟨r1, r2⟩ := h.range h0 hr
  have hw := word_split hb
  have hf := refF_num b h0 hr
  refine ⟨fun W => ?_, fun W => ?_, fun W hW => ?_, fun W => ?_, ?_, ?_, fun W hW => ?_, fun W => ?_, fun W => ?_⟩
  · rw [← hf]; exact fromBits64 b hb W
  · rw [← hf]; exact reftext_any b W
  · have := decimal14_num b hb h0 hr h W hW
    rw [if_pos hl] at this
    exact this
  · refine (exact17_any _ c z h0 hr h W).mono ?_
    rintro x w' ⟨⟨A, cc, hrr, rfl⟩, hb⟩
    refine ⟨⟨A, cc, rfl, fun W' hW' => ?_⟩, hb⟩
    exact digits_text A _ cc c hc (by rw [← Fl.dec_length hc]; omega) W' (hrr.on hW')
  · rw [← Fl.dec_length hc]; exact hl
  · rw [decide_eq_true m1, Bool.and_true]
  · have hx := nearest_of ⟨(Fl.expB (decide (9223372036854775808 ≤ b)) c (Fl.xE (b % 9223372036854775808) + z)).toArray⟩ ⟨(Fl.expB (decide (9223372036854775808 ≤ b)) c (Fl.xE (b % 9223372036854775808) + z)).toArray⟩ b hb (by omega) B (fun W' hW' => ?_) (fun W' hW' => ?_) (fun W' hW' => exact47_num b hb h0 hr h W' hW') W hW
    · rw [show ∀ l : List UInt8, (l == l) = true from fun l => by simp] at hx
      exact hx
    · have hi := Dc.itoa_len (n := Fl.xE (b % 9223372036854775808) + z) (by omega) hE2
      have hv := valid_any ⟨(Fl.expB (decide (9223372036854775808 ≤ b)) c (Fl.xE (b % 9223372036854775808) + z)).toArray⟩ W' (by
        rw [str_size]
        unfold Fl.expB Dc.sgnB
        rw [List.length_append, List.length_append, List.length_cons]
        split <;> simp <;> omega) hW'
      rw [show (⟨(Fl.expB (decide (9223372036854775808 ≤ b)) c (Fl.xE (b % 9223372036854775808) + z)).toArray⟩ : ByteArray).data.toList = Fl.expB (decide (9223372036854775808 ≤ b)) c (Fl.xE (b % 9223372036854775808) + z) from rfl, readP_exp h.odd hl (by omega) hE2] at hv
      exact hv
    · have hp := parsefloat_own hT rfl r1 r2 h0 hr (by rw [Fl.num_digL]; exact h.value h0 hr) W' B hW'.pow hW'.opt hW'.tab hW'.size
      rw [← hw] at hp
      exact hp
  · exact dectext21 _ c _ W (by omega) ⟨by omega, hE2⟩
  · rw [← hf]; exact reftext_any b W
theorem d3_zero (b : Nat) (B : Nat × Nat) (hb : b < 18446744073709551616) (h0 : b % 9223372036854775808 = 0) :
    D3 b B (decide (9223372036854775808 ≤ b)) false 0 0 0 ⟨(Fl.txt b).toArray⟩ ⟨#[48, 101, 48]⟩ ⟨#[48]⟩ ⟨(Fl.txt 0).toArray⟩ 0 := by
  have hf := refF_zero b h0
  have hf0 := refF_zero 0 rfl
  refine ⟨fun W => ?_, fun W => ?_, fun W hW => ?_, fun W => ?_, by omega, ?_, fun W hW => ?_, fun W => ?_, fun W => ?_⟩
  · have := fromBits64 b hb W
    rw [hf] at this
    exact this
  · have := reftext_any b W
    rw [hf] at this
    exact this
  · exact decimal14_zero b hb h0 W hW
  · refine (exact17_zero W).mono ?_
    rintro x w' ⟨⟨A, cc, rfl⟩, hb⟩
    exact ⟨⟨A, cc, rfl, fun W' _ => inttext_zero false A cc W'⟩, hb⟩
  · simp
  · have hx := nearest_of ⟨#[48, 101, 48]⟩ ⟨#[48, 101, 48]⟩ 0 (by decide) (by decide) B (fun W' hW' => ?_) (fun W' hW' => ?_) (fun W' hW' => ?_) W hW
    · rw [show ∀ l : List UInt8, (l == l) = true from fun l => by simp] at hx
      exact hx
    · have hv := valid_any ⟨#[48, 101, 48]⟩ W' (by decide) hW'
      rw [show (⟨#[48, 101, 48]⟩ : ByteArray).data.toList = [48, 101, 48] from rfl, readP_nought] at hv
      exact hv
    · refine (parsefloat_nought W' hW'.opt).mono ?_
      rintro x w' ⟨rfl, rfl⟩
      exact ⟨rfl, Below.refl _ _⟩
    · refine (exact47_zero 0 (by decide) (by decide) W').mono ?_
      rintro x w' ⟨rfl, rfl⟩
      exact ⟨rfl, Below.refl _ _⟩
  · have := dectext21 false 0 0 W (by rw [decDigits_one (by decide)]; decide) (by decide)
    rw [show Fl.expB false 0 0 = [48, 101, 48] by kernel_rfl, show (⟨(decDigits 0).toArray⟩ : ByteArray) = ⟨#[48]⟩ by rw [decDigits_one (by decide)]; rfl] at this
    exact this
  · have := reftext_any 0 W
    rw [hf0] at this
    exact this
end Go.Proofs.YtjapgpmoojfhnaaGreatDoor

namespace Go.Proofs.YtjapgpmoojfhnaaGreatDoor
open Go.RowKit Go.Lib

set_option maxHeartbeats 4000000 in
set_option maxRecDepth 100000 in
/-- At an infinity and at what is no number. -/
theorem law3_kind (b : Nat) (hb : b < 18446744073709551616) (hr : 9218868437227405312 ≤ b % 9223372036854775808) (w : World) (hL : Laid w) :
    Calls Tryz.prog 3 #[.int .u64 (b : Int)] w fun x w' => x = .returned (.bool true) ∧ Below w.heap.size w w' := by
  obtain ⟨k, ng, M, e, hk, hf⟩ := refF_kind b hr
  have FB := fun W => fromBits64 b hb W
  have TX := fun W => reftext_any b W
  rw [hf] at FB TX
  have DE := Lib.hid (fun W hW => decimal14_kind b hb hr W hW)
  obtain ⟨SF, hSF⟩ : ∃ S : ByteArray, (⟨(Fl.txt b).toArray⟩ : ByteArray) = S := ⟨_, rfl⟩
  rw [hSF] at TX DE
  have FB := Lib.hid FB
  have TX := Lib.hid TX
  have AW := Lib.hid (fun W hW => awake_any W hW)
  have HL := Lib.hid hL
  have ck : decide (0 < k) = true := decide_eq_true hk
  clear hL hb hr hf hSF
  go_enter Tryz.func3, Tryz.ntmps3
  go_wp2_with fail
  refine (FB.out _).mono ?_
  rintro y w1 ⟨rfl, hb1⟩
  go_upto_region 2 with fail
  obtain ⟨w2, X, hw2, hX, hb2, hcells⟩ := box_float k ng M e w1
  rw [hw2, hX]
  have hb2 := b_trans hb1 hb2
  have HC := Lib.hid hcells
  have hx := hcells w2 (Below.refl _ _)
  clear hw2 hX hcells hb1
  obtain ⟨x0, x1, x2, x3, _⟩ := hx
  go_wp2_with fail
  refine (TX.out _).mono ?_
  rintro y w3 ⟨rfl, hb3⟩
  go_wp2_with fail
  refine (DE.out _ (HL.out.on (b_trans hb2 hb3))).mono ?_
  rintro y w4 ⟨rfl, hb4⟩
  have hb4' := b_trans hb3 hb4
  clear x0 x1 x2 x3
  obtain ⟨x0, x1, x2, x3, _⟩ := HC.out w4 hb4'
  have hbz := b_trans hb2 hb4'
  go_wp2_with fail
  refine (AW.out _ (HL.out.on hbz)).mono ?_
  rintro y w5 ⟨rfl, hb5⟩
  go_wp2_with fail
  go_ret
  exact ⟨rfl, b_trans hbz hb5⟩
set_option maxHeartbeats 4000000 in
set_option maxRecDepth 100000 in
/-- Where the decimal is too long. -/
theorem law3_long (b : Nat) (hb : b < 18446744073709551616) (h0 : 0 < b % 9223372036854775808) (hr : b % 9223372036854775808 < 9218868437227405312) {c z : Nat} (h : Fl.Exp10 (b % 9223372036854775808) c z) (hl : ¬ (decDigits c).length ≤ 400) (w : World) (hL : Laid w) :
    Calls Tryz.prog 3 #[.int .u64 (b : Int)] w fun x w' => x = .returned (.bool true) ∧ Below w.heap.size w w' := by
  have hf := refF_num b h0 hr
  have FB := fun W => fromBits64 b hb W
  have TX := fun W => reftext_any b W
  have DE := fun W hW => decimal14_num b hb h0 hr h W hW
  have EX := fun W => exact17_any _ c z h0 hr h W
  have hc : c ≠ 0 := by have := h.pos; omega
  rw [Fl.dec_length hc] at hl
  rw [Fl.dec_length hc] at DE
  rw [if_neg hl] at DE
  rw [hf] at FB TX
  obtain ⟨SF, hSF⟩ : ∃ S : ByteArray, (⟨(Fl.txt b).toArray⟩ : ByteArray) = S := ⟨_, rfl⟩
  obtain ⟨n, hn⟩ : ∃ n, (Fl.digL c).length = n := ⟨_, rfl⟩
  obtain ⟨x, hx⟩ : ∃ x, Fl.xE (b % 9223372036854775808) + z = x := ⟨_, rfl⟩
  obtain ⟨M, hM⟩ : ∃ M, Fl.om (b % 9223372036854775808) = M := ⟨_, rfl⟩
  obtain ⟨e, he⟩ : ∃ e, Fl.oe (b % 9223372036854775808) = e := ⟨_, rfl⟩
  obtain ⟨ng, hng⟩ : ∃ ng, decide (9223372036854775808 ≤ b) = ng := ⟨_, rfl⟩
  rw [hSF] at TX DE
  rw [hn] at EX hl
  rw [hx] at EX
  rw [hM, he] at FB TX EX
  rw [hng] at FB TX
  have FB := Lib.hid FB
  have TX := Lib.hid TX
  have DE := Lib.hid DE
  have EX := Lib.hid EX
  have AW := Lib.hid (fun W hW => awake_any W hW)
  have HL := Lib.hid hL
  have c400 : decide (400 < n) = true := decide_eq_true (by omega)
  clear hL hb h0 hr h hl hf hSF hn hx hM he hng hc
  go_enter Tryz.func3, Tryz.ntmps3
  go_wp2_with fail
  refine (FB.out _).mono ?_
  rintro y w1 ⟨rfl, hb1⟩
  go_upto_region 2 with fail
  obtain ⟨w2, X, hw2, hX, hb2, hcells⟩ := box_float 0 ng (M : Int) e w1
  rw [hw2, hX]
  have hb2 := b_trans hb1 hb2
  have HC := Lib.hid hcells
  have hx := hcells w2 (Below.refl _ _)
  clear hw2 hX hcells hb1
  obtain ⟨x0, x1, x2, x3, _⟩ := hx
  go_wp2_with fail
  refine (TX.out _).mono ?_
  rintro y w3 ⟨rfl, hb3⟩
  go_wp2_with fail
  refine (DE.out _ (HL.out.on (b_trans hb2 hb3))).mono ?_
  rintro y w4 ⟨rfl, hb4⟩
  have hb4' := b_trans hb3 hb4
  clear x0 x1 x2 x3
  obtain ⟨x0, x1, x2, x3, _⟩ := HC.out w4 hb4'
  go_wp2_with fail
  refine (EX.out _).mono ?_
  rintro y w5 ⟨⟨A, cc, hrr, rfl⟩, hb5⟩
  have hb5' := b_trans hb4' hb5
  clear hrr
  go_upto_region 6 with fail
  obtain ⟨w6, Y, hw6, hY, hb6, hXY, hcells⟩ := box_float2 0 ng (M : Int) e A n cc w5 HC.out hb5'
  rw [hw6, hY]
  have hb6' := b_trans (b_trans hb2 hb5') hb6
  have LG := Lib.hid (fun W => long18 false A n cc W)
  rw [c400] at LG
  have HB6 := Lib.hid hb6'
  have hx := hcells w6 (Below.refl _ _)
  clear hw6 hY hb6 hb6' hcells hb5 hb5' hb4 hb4' hb3 hb2 x0 x1 x2 x3 hXY
  obtain ⟨x0, x1, x2, x3, y0, y1, _⟩ := hx
  go_wp2_with fail
  refine (LG.out _).mono ?_
  rintro y w7 ⟨rfl, hb7⟩
  clear x0 x1 x2 x3 y0 y1
  have hb7' := b_trans HB6.out hb7
  go_wp2_with fail
  refine (AW.out _ (HL.out.on hb7')).mono ?_
  rintro y w8 ⟨rfl, hb8⟩
  go_wp2_with fail
  go_ret
  exact ⟨rfl, b_trans hb7' hb8⟩
theorem law3 (b : Nat) (hb : b < 18446744073709551616) (w : World) (B : Nat × Nat) (hL : Laid2 w B) :
    Calls Tryz.prog 3 #[.int .u64 (b : Int)] w fun x w' => x = .returned (.bool true) ∧ Below w.heap.size w w' := by
  by_cases hr : b % 9223372036854775808 < 9218868437227405312
  · by_cases h0 : b % 9223372036854775808 = 0
    · exact law3_core b B _ _ _ _ _ _ _ _ _ _ (d3_zero b B hb h0) w hL
    · obtain ⟨c, z, h⟩ := Fl.exp10_ex (r := b % 9223372036854775808) (by omega)
      by_cases hl : (decDigits c).length ≤ 400
      · exact law3_core b B _ _ _ _ _ _ _ _ _ _ (d3_num b B hb (by omega) hr h hl) w hL
      · exact law3_long b hb (by omega) hr h hl w hL.laid
  · exact law3_kind b hb (by omega) w hL.laid
end Go.Proofs.YtjapgpmoojfhnaaGreatDoor
