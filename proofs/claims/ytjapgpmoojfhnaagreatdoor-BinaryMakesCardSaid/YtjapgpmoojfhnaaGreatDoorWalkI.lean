/- Cmp at canonical texts. -/
import Derived.Test.YtjapgpmoojfhnaaGreatDoorWalkH
namespace Go.Proofs.YtjapgpmoojfhnaaGreatDoor
open Go.RowKit Go.Lib

namespace Fl
def skey (n : Bool) (r : Nat) : Int := if n = true then -(r : Int) else (r : Int)
/-- A word as a signed number, by which words that are no NaN are ordered. -/
def key (b : Nat) : Int := skey (decide (9223372036854775808 ≤ b)) (b % 9223372036854775808)
theorem val_pos {r : Nat} (h : 0 < r) : 0 < val Ieee.double r := by
  have := val_lt (f := Ieee.double) h
  omega
theorem sval_lt {n m : Bool} {r s : Nat} (h : skey n r < skey m s) : sval Ieee.double n r < sval Ieee.double m s := by
  unfold skey at h
  unfold sval
  cases n <;> cases m <;> simp at h ⊢
  · exact val_lt (by omega)
  · omega
  · by_cases hr : r = 0
    · have := val_pos (r := s) (by omega)
      omega
    · have := val_pos (r := r) (by omega)
      omega
  · exact val_lt (by omega)
theorem sval_eq {n m : Bool} {r s : Nat} (h : skey n r = skey m s) : sval Ieee.double n r = sval Ieee.double m s := by
  unfold skey at h
  unfold sval
  cases n <;> cases m <;> simp at h ⊢
  · rw [show r = s by omega]
  · have h1 : r = 0 := by omega
    have h2 : s = 0 := by omega
    rw [h1, h2, val_zero]; rfl
  · have h1 : r = 0 := by omega
    have h2 : s = 0 := by omega
    rw [h1, h2, val_zero]; rfl
  · rw [show r = s by omega]
theorem cmp_sval (n m : Bool) (r s : Nat) : compare (sval Ieee.double n r) (sval Ieee.double m s) = compare (skey n r) (skey m s) := by
  rcases Int.lt_trichotomy (skey n r) (skey m s) with h | h | h
  · rw [Int.compare_eq_lt.2 h, Int.compare_eq_lt.2 (sval_lt h)]
  · rw [Int.compare_eq_eq.2 h, Int.compare_eq_eq.2 (sval_eq h)]
  · rw [Int.compare_eq_gt.2 h, Int.compare_eq_gt.2 (sval_lt h)]
end Fl
theorem order_key {x y : Nat} (hx : x < 18446744073709551616) (hy : y < 18446744073709551616) (nx : x % 9223372036854775808 ≤ 9218868437227405312) (ny : y % 9223372036854775808 ≤ 9218868437227405312) : FloatKind.f64.format.order x y = some (compare (Fl.key x) (Fl.key y)) := by
  show Ieee.Datum.order (Ieee.double.read x) (Ieee.double.read y) = _
  unfold Fl.key
  rcases Nat.eq_or_lt_of_le nx with h1 | h1
  · rcases Nat.eq_or_lt_of_le ny with h2 | h2
    · rw [read_inf' hx h1, read_inf' hy h2, h1, h2]
      generalize decide (9223372036854775808 ≤ x) = a
      generalize decide (9223372036854775808 ≤ y) = b
      cases a <;> cases b <;> decide
    · rw [read_inf' hx h1, read_fin hy h2, h1]
      generalize decide (9223372036854775808 ≤ x) = a
      generalize decide (9223372036854775808 ≤ y) = b
      generalize y % 9223372036854775808 = s at *
      cases a
      · show some Ordering.gt = _
        rw [Int.compare_eq_gt.2]
        cases b <;> simp [Fl.skey] <;> omega
      · show some Ordering.lt = _
        rw [Int.compare_eq_lt.2]
        cases b <;> simp [Fl.skey] <;> omega
  · rcases Nat.eq_or_lt_of_le ny with h2 | h2
    · rw [read_fin hx h1, read_inf' hy h2, h2]
      generalize decide (9223372036854775808 ≤ x) = a
      generalize decide (9223372036854775808 ≤ y) = b
      generalize x % 9223372036854775808 = s at *
      cases b
      · show some Ordering.lt = _
        rw [Int.compare_eq_lt.2]
        cases a <;> simp [Fl.skey] <;> omega
      · show some Ordering.gt = _
        rw [Int.compare_eq_gt.2]
        cases a <;> simp [Fl.skey] <;> omega
    · rw [read_fin hx h1, read_fin hy h2, Fl.order_rungs, Fl.cmp_sval]
/-- What Cmp answers where no operand is a NaN. -/
def Fl.cmpW (x y : Nat) : Int := if Fl.key x < Fl.key y then -1 else if Fl.key y < Fl.key x then 1 else 0
theorem canon_self {b : Nat} (h : b % 9223372036854775808 ≤ 9218868437227405312) : Fl.canonW b = b := if_neg (by omega)
set_option maxHeartbeats 1000000 in
set_option maxRecDepth 100000 in
theorem bincmp_any (x y : Nat) (hx : x < 18446744073709551616) (hy : y < 18446744073709551616) (nx : x % 9223372036854775808 ≤ 9218868437227405312) (ny : y % 9223372036854775808 ≤ 9218868437227405312) (w : World) (hL : Laid w) :
    Calls Tryz.prog 23 #[.string ⟨(Fl.txt x).toArray⟩, .string ⟨(Fl.txt y).toArray⟩] w fun z w' => z = .returned (.tuple #[.int .i64 (Fl.cmpW x y), .bool true]) ∧ Below w.heap.size w w' := by
  have PX := parse_txt x hx w hL
  have PY := fun W hW => parse_txt y hy W hW
  rw [canon_self nx] at PX
  rw [canon_self ny] at PY
  have sx := ord_self hx
  have sy := ord_self hy
  rw [decide_eq_false (by omega)] at sx sy
  have hO := order_key hx hy nx ny
  obtain ⟨S, hS⟩ : ∃ S : ByteArray, ⟨(Fl.txt x).toArray⟩ = S := ⟨_, rfl⟩
  obtain ⟨T, hT⟩ : ∃ T : ByteArray, ⟨(Fl.txt y).toArray⟩ = T := ⟨_, rfl⟩
  rw [hS] at PX ⊢
  rw [hT] at PY ⊢
  have PX := Lib.hid PX
  have PY := Lib.hid PY
  have HL := Lib.hid hL
  rcases Int.lt_trichotomy (Fl.key x) (Fl.key y) with h | h | h
  · have hc : Fl.cmpW x y = -1 := if_pos h
    rw [Int.compare_eq_lt.2 h] at hO
    have o1 : (FloatKind.f64.format.order x y == some Ordering.lt) = true := by rw [hO]; rfl
    rw [hc]
    clear hO h hc hS hT hL nx ny hx hy
    go_enter Tryz.func23, Tryz.ntmps23
    go_wp2_with fail
    refine (PX.out).mono ?_
    rintro z w1 ⟨rfl, hb1⟩
    go_wp2_with fail
    refine (PY.out _ (HL.out.on hb1)).mono ?_
    rintro z w2 ⟨rfl, hb2⟩
    go_wp2_with fail
    go_ret2
    exact ⟨rfl, hb1.trans (hb2.mono hb1.size)⟩
  · have hc : Fl.cmpW x y = 0 := by unfold Fl.cmpW; rw [if_neg (by omega), if_neg (by omega)]
    rw [Int.compare_eq_eq.2 h] at hO
    have o1 : (FloatKind.f64.format.order x y == some Ordering.lt) = false := by rw [hO]; rfl
    have o2 : (FloatKind.f64.format.order x y == some Ordering.gt) = false := by rw [hO]; rfl
    rw [hc]
    clear hO h hc hS hT hL nx ny hx hy
    go_enter Tryz.func23, Tryz.ntmps23
    go_wp2_with fail
    refine (PX.out).mono ?_
    rintro z w1 ⟨rfl, hb1⟩
    go_wp2_with fail
    refine (PY.out _ (HL.out.on hb1)).mono ?_
    rintro z w2 ⟨rfl, hb2⟩
    go_wp2_with fail
    go_ret2
    exact ⟨rfl, hb1.trans (hb2.mono hb1.size)⟩
  · have hc : Fl.cmpW x y = 1 := by unfold Fl.cmpW; rw [if_neg (by omega), if_pos h]
    rw [Int.compare_eq_gt.2 h] at hO
    have o1 : (FloatKind.f64.format.order x y == some Ordering.lt) = false := by rw [hO]; rfl
    have o2 : (FloatKind.f64.format.order x y == some Ordering.gt) = true := by rw [hO]; rfl
    rw [hc]
    clear hO h hc hS hT hL nx ny hx hy
    go_enter Tryz.func23, Tryz.ntmps23
    go_wp2_with fail
    refine (PX.out).mono ?_
    rintro z w1 ⟨rfl, hb1⟩
    go_wp2_with fail
    refine (PY.out _ (HL.out.on hb1)).mono ?_
    rintro z w2 ⟨rfl, hb2⟩
    go_wp2_with fail
    go_ret2
    exact ⟨rfl, hb1.trans (hb2.mono hb1.size)⟩
theorem canon_nan {b : Nat} (h : 9218868437227405312 < b % 9223372036854775808) : Fl.canonW b = 9221120237041090561 := if_pos h
set_option maxHeartbeats 1000000 in
set_option maxRecDepth 100000 in
theorem bincmp_nan (x y : Nat) (hx : x < 18446744073709551616) (hy : y < 18446744073709551616) (h : 9218868437227405312 < x % 9223372036854775808 ∨ 9218868437227405312 < y % 9223372036854775808) (w : World) (hL : Laid w) :
    Calls Tryz.prog 23 #[.string ⟨(Fl.txt x).toArray⟩, .string ⟨(Fl.txt y).toArray⟩] w fun z w' => z = .returned (.tuple #[.int .i64 0, .bool false]) ∧ Below w.heap.size w w' := by
  have PX := parse_txt x hx w hL
  have PY := fun W hW => parse_txt y hy W hW
  obtain ⟨cx, hcx⟩ : ∃ c, Fl.canonW x = c := ⟨_, rfl⟩
  obtain ⟨cy, hcy⟩ : ∃ c, Fl.canonW y = c := ⟨_, rfl⟩
  have nb : ∀ b, b < 18446744073709551616 → ((FloatKind.f64.format.order (Fl.canonW b) (Fl.canonW b) != some Ordering.eq) = decide (9218868437227405312 < b % 9223372036854775808)) := fun b hb => by
    unfold Fl.canonW
    split
    · rename_i h1
      rw [ord_self (by decide), decide_eq_true h1]
      rfl
    · exact ord_self hb
  have sx := nb x hx
  have sy := nb y hy
  rw [hcx] at sx PX
  rw [hcy] at sy PY
  obtain ⟨S, hS⟩ : ∃ S : ByteArray, ⟨(Fl.txt x).toArray⟩ = S := ⟨_, rfl⟩
  obtain ⟨T, hT⟩ : ∃ T : ByteArray, ⟨(Fl.txt y).toArray⟩ = T := ⟨_, rfl⟩
  rw [hS] at PX ⊢
  rw [hT] at PY ⊢
  have PX := Lib.hid PX
  have PY := Lib.hid PY
  have HL := Lib.hid hL
  by_cases h1 : 9218868437227405312 < x % 9223372036854775808
  · rw [decide_eq_true h1] at sx
    clear sy nb h h1 hS hT hL hx hy hcx hcy
    go_enter Tryz.func23, Tryz.ntmps23
    go_wp2_with fail
    refine (PX.out).mono ?_
    rintro z w1 ⟨rfl, hb1⟩
    go_wp2_with fail
    refine (PY.out _ (HL.out.on hb1)).mono ?_
    rintro z w2 ⟨rfl, hb2⟩
    go_wp2_with fail
    go_ret2
    exact ⟨rfl, hb1.trans (hb2.mono hb1.size)⟩
  · rw [decide_eq_false h1] at sx
    rw [decide_eq_true (h.resolve_left h1)] at sy
    clear nb h h1 hS hT hL hx hy hcx hcy
    go_enter Tryz.func23, Tryz.ntmps23
    go_wp2_with fail
    refine (PX.out).mono ?_
    rintro z w1 ⟨rfl, hb1⟩
    go_wp2_with fail
    refine (PY.out _ (HL.out.on hb1)).mono ?_
    rintro z w2 ⟨rfl, hb2⟩
    go_wp2_with fail
    go_ret2
    exact ⟨rfl, hb1.trans (hb2.mono hb1.size)⟩
end Go.Proofs.YtjapgpmoojfhnaaGreatDoor
