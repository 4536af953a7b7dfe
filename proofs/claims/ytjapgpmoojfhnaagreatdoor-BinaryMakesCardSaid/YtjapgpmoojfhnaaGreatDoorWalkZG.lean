/- finite, scaled, next at one digit, and the test of the interval. -/
import Derived.Test.YtjapgpmoojfhnaaGreatDoorWalkZF
namespace Go.Proofs.YtjapgpmoojfhnaaGreatDoor
open Go.RowKit Go.Lib

set_option maxHeartbeats 1000000 in
set_option maxRecDepth 100000 in
theorem finite_num (b : Nat) (hb : b < 18446744073709551616) (hr : b % 9223372036854775808 < 9218868437227405312) (w : World) (hL : Laid w) :
    Calls Tryz.prog 46 #[.string ⟨(Fl.txt b).toArray⟩] w fun x w' => x = .returned (.tuple #[.float .f64 b, .int .i64 0]) ∧ Below w.heap.size w w' := by
  have PA := fun W hW => parse_txt b hb W hW
  rw [canon_self (by omega)] at PA
  have PA := Lib.hid PA
  have II := fun W => isinf_any b W hb
  have i0 : (b % 9223372036854775808 == 9218868437227405312) = false := by rw [beq_eq_false_iff_ne]; omega
  rw [i0] at II
  have II := Lib.hid II
  have o1 := ord_self hb
  rw [decide_eq_false (by omega)] at o1
  have HL := Lib.hid hL
  clear hb hr hL i0
  go_enter Tryz.func46, Tryz.ntmps46
  go_wp2_with fail
  refine (PA.out _ HL.out).mono ?_
  rintro x w1 ⟨rfl, hb1⟩
  go_wp2_with fail
  refine (II.out _).mono ?_
  rintro x w2 ⟨rfl, rfl⟩
  go_wp2_with fail
  go_ret2
  exact ⟨rfl, hb1⟩
set_option maxHeartbeats 1000000 in
set_option maxRecDepth 100000 in
theorem finite_kind (b : Nat) (hb : b < 18446744073709551616) (hr : 9218868437227405312 ≤ b % 9223372036854775808) (w : World) (hL : Laid w) :
    Calls Tryz.prog 46 #[.string ⟨(Fl.txt b).toArray⟩] w fun x w' => x = .returned (.tuple #[.float .f64 0, .int .i64 10]) ∧ Below w.heap.size w w' := by
  have PA := Lib.hid (fun W hW => parse_txt b hb W hW)
  have HL := Lib.hid hL
  by_cases hn : 9218868437227405312 < b % 9223372036854775808
  · have o1 : (FloatKind.f64.format.order (Fl.canonW b) (Fl.canonW b) != some Ordering.eq) = true := by
      rw [canon_nan hn, ord_self (by decide)]; decide
    clear hb hr hL hn
    go_enter Tryz.func46, Tryz.ntmps46
    go_wp2_with fail
    refine (PA.out _ HL.out).mono ?_
    rintro x w1 ⟨rfl, hb1⟩
    go_wp2_with fail
    go_ret2
    exact ⟨rfl, hb1⟩
  · have hc : Fl.canonW b = b := canon_self (by omega)
    rw [hc] at PA
    have II := fun W => isinf_any b W hb
    have i0 : (b % 9223372036854775808 == 9218868437227405312) = true := by rw [beq_iff_eq]; omega
    rw [i0] at II
    have II := Lib.hid II
    have o1 := ord_self hb
    rw [decide_eq_false (by omega)] at o1
    clear hb hr hL hn i0 hc
    go_enter Tryz.func46, Tryz.ntmps46
    go_wp2_with fail
    refine (PA.out _ HL.out).mono ?_
    rintro x w1 ⟨rfl, hb1⟩
    go_wp2_with fail
    refine (II.out _).mono ?_
    rintro x w2 ⟨rfl, rfl⟩
    go_wp2_with fail
    go_ret2
    exact ⟨rfl, hb1⟩
set_option maxHeartbeats 1000000 in
set_option maxRecDepth 100000 in
theorem scaled_neg (m k : Nat) (e : Int) (w : World) (hL : Laid w) (hm : m < 18446744073709551616) (hm0 : m ≠ 0) (hk : k ≤ 2000) (he : e < 0) (hek : -e = (k : Int)) :
    Calls Tryz.prog 73 #[.int .u64 (m : Int), .int .i64 e] w fun x w' => x = .returned (.string ⟨(decDigits (m * 5 ^ k)).toArray⟩) ∧ Below w.heap.size w w' := by
  have h5 : 0 < 5 ^ k := Nat.pow_pos (n := k) (show 0 < 5 by decide)
  have hne : m * 5 ^ k ≠ 0 := Nat.mul_ne_zero hm0 (by omega)
  have PR : ∀ W, Laid W → Calls Tryz.prog 117 #[.int .u64 (m : Int), .int .u64 5, .int .i64 (k : Int)] W fun x w' => x = .returned (.string ⟨(decDigits (m * 5 ^ k)).toArray⟩) ∧ Below W.heap.size W w' := fun W hW => product_any m 5 k W hW hm (by decide) hk hne
  obtain ⟨Z, hZ⟩ : ∃ Z : ByteArray, ⟨(decDigits (m * 5 ^ k)).toArray⟩ = Z := ⟨_, rfl⟩
  rw [hZ] at PR ⊢
  have PR := Lib.hid PR
  have c1 : decide (0 ≤ e) = false := decide_eq_false (by omega)
  have c2 : IntKind.i64.wrap (-e) = (k : Int) := by rw [hek]; exact IntWalk.i64_in _ (by omega)
  have HL := Lib.hid hL
  clear hL hm hm0 hk he hek h5 hne hZ
  go_enter Tryz.func73, Tryz.ntmps73
  go_wp2_with fail
  refine (PR.out _ HL.out).mono ?_
  rintro x w1 ⟨rfl, hb1⟩
  go_wp2_with fail
  go_ret
  exact ⟨rfl, hb1⟩
set_option maxHeartbeats 1000000 in
set_option maxRecDepth 100000 in
theorem next_four (w : World) : Calls Tryz.prog 77 #[.string ⟨#[52]⟩] w fun x w' => x = .returned (.string ⟨#[53]⟩) ∧ Below w.heap.size w w' := by
  have TR : ∀ W, Calls Tryz.prog 124 #[.string ⟨#[52]⟩, .string ⟨#[57]⟩] W fun z w' => z = .returned (.string ⟨#[52]⟩) ∧ w' = W := fun W => by
    have h := Tryz.strings_TrimRight_one ⟨#[52]⟩ 57 (by decide) W (by decide)
    exact h
  have RP : ∀ W, Calls Tryz.prog 76 #[.string ⟨#[48]⟩, .int .i64 0] W fun z w' => z = .returned (.string ⟨#[]⟩) ∧ Below W.heap.size W w' := fun W => by
    have h := Tryz.strings_Repeat ⟨#[48]⟩ 0 W (by decide) (by decide)
    exact h
  have cv : ∀ W : World, (convert 31 9 (.slice (some ⟨W.heap.size, 0, none⟩) 1 1)).run Tryz.prog ((W.alloc (.cells #[.int .u8 53] 5)).drew) = .ok (.string ⟨#[53]⟩) ((W.alloc (.cells #[.int .u8 53] 5)).drew) := fun W => by
    have hr : Reads ((W.alloc (.cells #[.int .u8 53] 5)).drew) (W.heap.size + 1) (some ⟨W.heap.size, 0, none⟩) 1 (u8s [53]) := by
      have h := Reads.of_block (cs := u8s [53]) (show (W.alloc (.cells #[.int .u8 53] 5)).heap[W.heap.size]? = some (.cells (u8s [53]).toArray 5 (0, 0)) from heap_alloc_new W _)
      have e : (W.alloc (.cells #[.int .u8 53] 5)).heap.size = W.heap.size + 1 := by simp
      rw [e] at h
      exact h
    exact conv_bytes hr (fun h => by omega)
  obtain ⟨S, hS⟩ : ∃ S : ByteArray, (⟨#[52]⟩ : ByteArray) = S := ⟨_, rfl⟩
  have s1 : S.size = 1 := by rw [← hS]; rfl
  have s2 : (S[0]'(by omega)).toNat = 52 := by subst hS; rfl
  have s3 : S.extract 0 0 = ⟨#[]⟩ := by subst hS; decide
  have s4 : S.toList.isEmpty = false := by subst hS; kernel_rfl
  have w0 : IntKind.i64.wrap 0 = 0 := by decide
  have a1 := fun W => run_string_add_sum (P := Tryz.prog) (w := W) ⟨#[]⟩ ⟨#[53]⟩ (by decide)
  have a2 := fun W => run_string_add_sum (P := Tryz.prog) (w := W) ⟨#[53]⟩ ⟨#[]⟩ (by decide)
  rw [hS] at TR ⊢
  have TR := Lib.hid TR
  have RP := Lib.hid RP
  clear hS
  go_enter Tryz.func77, Tryz.ntmps77
  go_wp2_with fail
  refine (TR.out _).mono ?_
  rintro x w1 ⟨rfl, rfl⟩
  go_wp2_with fail
  refine (RP.out _).mono ?_
  rintro x w2 ⟨rfl, hb2⟩
  go_wp2_with fail
  go_region
  go_wp2_with fail
  go_ret
  exact ⟨rfl, hb2.trans ((((Below.refl _ _).alloc (Nat.le_refl _) _).drew).mono hb2.size)⟩
/-- The test of the interval. -/
def Fl.insideP (x y : Int) (even : Bool) : Bool := (decide (0 < x) && decide (y < 0)) || (even && (x == 0 || y == 0))
set_option maxHeartbeats 1000000 in
set_option maxRecDepth 100000 in
theorem inside_any (c lo hi : ByteArray) (even : Bool) (pl ph pe : Addr) (w : World) (hl : w.cell? pl = some (.string lo)) (hh : w.cell? ph = some (.string hi)) (he : w.cell? pe = some (.bool even)) (h1 : c.size ≤ 1073741824) (h2 : lo.size ≤ 1073741824) (h3 : hi.size ≤ 1073741824) :
    Calls Tryz.prog 74 #[.string c, .pointer (some pl), .pointer (some ph), .pointer (some pe)] w fun x w' => x = .returned (.bool (Fl.insideP (ordB c lo) (ordB c hi) even)) ∧ Below w.heap.size w w' := by
  have OL := Lib.hid (fun W => order_any c lo W h1 h2)
  have OH := Lib.hid (fun W => order_any c hi W h1 h3)
  obtain ⟨x, hx⟩ : ∃ x, ordB c lo = x := ⟨_, rfl⟩
  obtain ⟨y, hy⟩ : ∃ y, ordB c hi = y := ⟨_, rfl⟩
  rw [hx] at OL ⊢
  rw [hy] at OH ⊢
  clear hx hy h1 h2 h3
  go_enter Tryz.func74, Tryz.ntmps74
  go_wp2_with fail
  go_region_held3 (fun W => W.cell? pl = some (.string lo) ∧ W.cell? ph = some (.string hi) ∧ W.cell? pe = some (.bool even) ∧ Below w.heap.size w W)
    ((first | exact ⟨hl, hh, he, Below.refl _ _⟩ | exact ⟨hl, hh, he, b_drew (Below.refl _ _)⟩ | assumption | (refine ⟨by assumption, by assumption, by assumption, ?_⟩; exact b_drew (by assumption))))
    (first | (go_at_call 75; with_reducible refine (OL.out _).mono ?_; rintro z w6 ⟨rfl, rfl⟩) | (go_at_call 75; with_reducible refine (OH.out _).mono ?_; rintro z w6 ⟨rfl, rfl⟩))
  rcases Int.lt_trichotomy x 0 with hx | hx | hx
  · have a1 : decide (0 < x) = false := decide_eq_false (by omega)
    have a2 : (x == 0) = false := by rw [beq_eq_false_iff_ne]; omega
    clear hx
    rcases Int.lt_trichotomy y 0 with hy | hy | hy
    · have b1 : decide (y < 0) = true := decide_eq_true (by omega)
      have b2 : (y == 0) = false := by rw [beq_eq_false_iff_ne]; omega
      clear hy
      cases even
      · go_wp2_with fail
        go_ret
        refine ⟨?_, b_drew (Below.refl _ _)⟩
        simp [Fl.insideP, *]
      · go_wp2_with fail
        go_ret
        refine ⟨?_, b_drew (Below.refl _ _)⟩
        simp [Fl.insideP, *]
    · subst hy
      cases even
      · go_wp2_with fail
        go_ret
        refine ⟨?_, b_drew (Below.refl _ _)⟩
        simp [Fl.insideP, *]
      · go_wp2_with fail
        go_ret
        refine ⟨?_, b_drew (Below.refl _ _)⟩
        simp [Fl.insideP, *]
    · have b1 : decide (y < 0) = false := decide_eq_false (by omega)
      have b2 : (y == 0) = false := by rw [beq_eq_false_iff_ne]; omega
      clear hy
      cases even
      · go_wp2_with fail
        go_ret
        refine ⟨?_, b_drew (Below.refl _ _)⟩
        simp [Fl.insideP, *]
      · go_wp2_with fail
        go_ret
        refine ⟨?_, b_drew (Below.refl _ _)⟩
        simp [Fl.insideP, *]
  · subst hx
    rcases Int.lt_trichotomy y 0 with hy | hy | hy
    · have b1 : decide (y < 0) = true := decide_eq_true (by omega)
      have b2 : (y == 0) = false := by rw [beq_eq_false_iff_ne]; omega
      clear hy
      cases even
      · go_wp2_with fail
        go_ret
        refine ⟨?_, b_drew (Below.refl _ _)⟩
        simp [Fl.insideP, *]
      · go_wp2_with fail
        go_ret
        refine ⟨?_, b_drew (Below.refl _ _)⟩
        simp [Fl.insideP, *]
    · subst hy
      cases even
      · go_wp2_with fail
        go_ret
        refine ⟨?_, b_drew (Below.refl _ _)⟩
        simp [Fl.insideP, *]
      · go_wp2_with fail
        go_ret
        refine ⟨?_, b_drew (Below.refl _ _)⟩
        simp [Fl.insideP, *]
    · have b1 : decide (y < 0) = false := decide_eq_false (by omega)
      have b2 : (y == 0) = false := by rw [beq_eq_false_iff_ne]; omega
      clear hy
      cases even
      · go_wp2_with fail
        go_ret
        refine ⟨?_, b_drew (Below.refl _ _)⟩
        simp [Fl.insideP, *]
      · go_wp2_with fail
        go_ret
        refine ⟨?_, b_drew (Below.refl _ _)⟩
        simp [Fl.insideP, *]
  · have a1 : decide (0 < x) = true := decide_eq_true (by omega)
    have a2 : (x == 0) = false := by rw [beq_eq_false_iff_ne]; omega
    clear hx
    rcases Int.lt_trichotomy y 0 with hy | hy | hy
    · have b1 : decide (y < 0) = true := decide_eq_true (by omega)
      have b2 : (y == 0) = false := by rw [beq_eq_false_iff_ne]; omega
      clear hy
      cases even
      · go_wp2_with fail
        go_ret
        refine ⟨?_, b_drew (Below.refl _ _)⟩
        simp [Fl.insideP, *]
      · go_wp2_with fail
        go_ret
        refine ⟨?_, b_drew (Below.refl _ _)⟩
        simp [Fl.insideP, *]
    · subst hy
      cases even
      · go_wp2_with fail
        go_ret
        refine ⟨?_, b_drew (Below.refl _ _)⟩
        simp [Fl.insideP, *]
      · go_wp2_with fail
        go_ret
        refine ⟨?_, b_drew (Below.refl _ _)⟩
        simp [Fl.insideP, *]
    · have b1 : decide (y < 0) = false := decide_eq_false (by omega)
      have b2 : (y == 0) = false := by rw [beq_eq_false_iff_ne]; omega
      clear hy
      cases even
      · go_wp2_with fail
        go_ret
        refine ⟨?_, b_drew (Below.refl _ _)⟩
        simp [Fl.insideP, *]
      · go_wp2_with fail
        go_ret
        refine ⟨?_, b_drew (Below.refl _ _)⟩
        simp [Fl.insideP, *]
end Go.Proofs.YtjapgpmoojfhnaaGreatDoor
