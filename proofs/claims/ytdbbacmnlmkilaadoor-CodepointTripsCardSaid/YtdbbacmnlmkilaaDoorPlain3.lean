/- Plain facts on the encoding of scalars: what is decoded encodes as itself, what is encoded decodes as itself, and the order of the bytes is the order of the scalars. No program is in sight. -/
import Derived.Test.YtdbbacmnlmkilaaDoorPlain
import GoSem.Op.String
namespace Go.Proofs.YtdbbacmnlmkilaaDoor.Cp
open Go Go.Lib

def valid (r : Int) : Bool := validRune r
theorem valid_iff (r : Int) : valid r = true ↔ ((0 ≤ r ∧ r < 55296) ∨ (57343 < r ∧ r ≤ 1114111)) := by simp [valid, validRune]

/-- The encodings of a list of scalars. -/
def encs (rs : List Int) : List UInt8 := rs.flatMap encodeRune
def ints (rs : List Nat) : List Int := rs.map fun (r : Nat) => (r : Int)
theorem encs_nil : encs [] = [] := rfl
theorem encs_cons (r : Int) (rs : List Int) : encs (r :: rs) = encodeRune r ++ encs rs := by simp [encs]
theorem encs_append (a b : List Int) : encs (a ++ b) = encs a ++ encs b := by simp [encs]

theorem decodeL_valid {l : List UInt8} (h : bad l = false) : valid ((decodeL l).1 : Int) = true := by
  have h := (bad_false l).1 h
  rw [valid_iff]
  rw [decodeL_N] at h ⊢
  have k0 := (l.getD 0 0).toNat_lt
  have k1 := (l.getD 1 0).toNat_lt
  have k2 := (l.getD 2 0).toNat_lt
  have k3 := (l.getD 3 0).toNat_lt
  rcases decodeN_shape l.length (l.getD 0 0).toNat (l.getD 1 0).toNat (l.getD 2 0).toNat (l.getD 3 0).toNat with ⟨c, e⟩ | ⟨c1, c2, c3, cv, e⟩ | ⟨c1, c2, c3, c4, cv, cs, e⟩ | ⟨c1, c2, c3, c4, c5, cv, cw, e⟩ | e
  all_goals rw [e] at h ⊢
  all_goals simp only at h ⊢
  all_goals omega
theorem sc_valid (l : List UInt8) : ∀ r ∈ ints (sc l), valid r = true := by
  refine along (motive := fun l => ∀ r ∈ ints (sc l), valid r = true) (by simp [sc_nil, ints]) (fun l _ h => by rw [sc_bad h]; simp [ints]) (fun l hne h ih => ?_) l
  rw [sc_ok hne h]
  intro r hr
  simp only [ints, List.map_cons, List.mem_cons] at hr
  rcases hr with rfl | hr
  · exact decodeL_valid h
  · exact ih r hr

/-- ████ What is decoded is encoded as itself. -/
theorem encs_sc (l : List UInt8) : encs (ints (sc l)) = l.take (used l) := by
  refine along (motive := fun l => encs (ints (sc l)) = l.take (used l)) (by simp [sc_nil, ints, encs]) (fun l _ h => by simp [sc_bad h, used_bad h, ints, encs]) (fun l hne h ih => ?_) l
  rw [sc_ok hne h, used_ok hne h]
  show encs ((((decodeL l).1 : Nat) : Int) :: ints (sc (l.drop (decodeL l).2))) = _
  rw [encs_cons, ih, encode_decode l hne ((bad_false l).1 h), List.take_add]

/-- The encoding by natural numbers. -/
def encN (a : Nat) : List UInt8 :=
  if a < 128 then [a.toUInt8] else if a < 2048 then [(192 + a / 64).toUInt8, (128 + a % 64).toUInt8]
  else if a < 65536 then [(224 + a / 4096).toUInt8, (128 + a / 64 % 64).toUInt8, (128 + a % 64).toUInt8]
  else [(240 + a / 262144).toUInt8, (128 + a / 4096 % 64).toUInt8, (128 + a / 64 % 64).toUInt8, (128 + a % 64).toUInt8]
theorem encN_eq (a : Nat) (h : valid (a : Int) = true) : encodeRune (a : Int) = encN a := by
  rw [valid_iff] at h
  unfold encN encodeRune
  by_cases h1 : a < 128
  · rw [if_pos h1, encodeRuneZ_one (by omega) (by omega)]; simp
  · rw [if_neg h1]
    by_cases h2 : a < 2048
    · rw [if_pos h2, encodeRuneZ_two (by omega) (by omega)]
      simp only [List.map_cons, List.map_nil]
      rw [show ((192 : Int) + (a : Int) / 64).toNat = 192 + a / 64 by omega, show ((128 : Int) + (a : Int) % 64).toNat = 128 + a % 64 by omega]
    · rw [if_neg h2]
      by_cases h3 : a < 65536
      · rw [if_pos h3, encodeRuneZ_three (by omega)]
        simp only [List.map_cons, List.map_nil]
        rw [show ((224 : Int) + (a : Int) / 4096).toNat = 224 + a / 4096 by omega, show ((128 : Int) + (a : Int) / 64 % 64).toNat = 128 + a / 64 % 64 by omega, show ((128 : Int) + (a : Int) % 64).toNat = 128 + a % 64 by omega]
      · rw [if_neg h3, encodeRuneZ_four (by omega) (by omega)]
        simp only [List.map_cons, List.map_nil]
        rw [show ((240 : Int) + (a : Int) / 262144).toNat = 240 + a / 262144 by omega, show ((128 : Int) + (a : Int) / 4096 % 64).toNat = 128 + a / 4096 % 64 by omega, show ((128 : Int) + (a : Int) / 64 % 64).toNat = 128 + a / 64 % 64 by omega, show ((128 : Int) + (a : Int) % 64).toNat = 128 + a % 64 by omega]
theorem toU8 (n : Nat) (h : n < 256) : n.toUInt8.toNat = n := by
  show (UInt8.ofNat n).toNat = n
  rw [UInt8.toNat_ofNat']; omega

theorem encN_ne (a : Nat) : encN a ≠ [] := by
  unfold encN; repeat' split
  all_goals simp

/-- What is encoded is decoded as itself. -/
theorem decode_encN (a : Nat) (h : valid (a : Int) = true) (m : List UInt8) : decodeL (encN a ++ m) = (a, (encN a).length) := by
  rw [valid_iff] at h
  rw [decodeL_N]
  unfold encN
  by_cases h1 : a < 128
  · rw [if_pos h1]
    simp only [List.cons_append, List.nil_append, List.getD_cons_zero, List.getD_cons_succ, List.length_cons, List.length_nil]
    rw [toU8 a (by omega)]; unfold decodeN; rw [if_pos h1]
  · rw [if_neg h1]
    by_cases h2 : a < 2048
    · rw [if_pos h2]
      simp only [List.cons_append, List.nil_append, List.getD_cons_zero, List.getD_cons_succ, List.length_cons, List.length_nil]
      rw [toU8 (192 + a / 64) (by omega), toU8 (128 + a % 64) (by omega)]; unfold decodeN
      have ev : (192 + a / 64) % 32 * 64 + (128 + a % 64) % 64 = a := by omega
      rw [if_neg (by omega), if_pos (by omega), ev, if_pos (by omega)]
    · rw [if_neg h2]
      by_cases h3 : a < 65536
      · rw [if_pos h3]
        simp only [List.cons_append, List.nil_append, List.getD_cons_zero, List.getD_cons_succ, List.length_cons, List.length_nil]
        rw [toU8 (224 + a / 4096) (by omega), toU8 (128 + a / 64 % 64) (by omega), toU8 (128 + a % 64) (by omega)]; unfold decodeN
        have ev : (224 + a / 4096) % 16 * 4096 + (128 + a / 64 % 64) % 64 * 64 + (128 + a % 64) % 64 = a := by omega
        rw [if_neg (by omega), if_neg (by omega), if_pos (by omega), ev, if_pos (by omega)]
      · rw [if_neg h3]
        simp only [List.cons_append, List.nil_append, List.getD_cons_zero, List.getD_cons_succ, List.length_cons, List.length_nil]
        rw [toU8 (240 + a / 262144) (by omega), toU8 (128 + a / 4096 % 64) (by omega), toU8 (128 + a / 64 % 64) (by omega), toU8 (128 + a % 64) (by omega)]; unfold decodeN
        have ev : (240 + a / 262144) % 8 * 262144 + (128 + a / 4096 % 64) % 64 * 4096 + (128 + a / 64 % 64) % 64 * 64 + (128 + a % 64) % 64 = a := by omega
        rw [if_neg (by omega), if_neg (by omega), if_neg (by omega), if_pos (by omega), ev, if_pos (by omega)]
theorem bad_encN (a : Nat) (h : valid (a : Int) = true) (m : List UInt8) : bad (encN a ++ m) = false := by
  rw [bad_false, decode_encN a h m]
  intro ⟨h1, h2⟩
  simp only at h1 h2
  subst h1
  revert h2
  decide

theorem sc_encs (rs : List Nat) (h : ∀ r ∈ ints rs, valid r = true) : sc (encs (ints rs)) = rs ∧ used (encs (ints rs)) = (encs (ints rs)).length := by
  induction rs with
  | nil => exact ⟨rfl, rfl⟩
  | cons r rs ih =>
    have hr : valid (r : Int) = true := h _ (by simp [ints])
    have ih' := ih fun x hx => h x (by simp only [ints, List.map_cons, List.mem_cons]; exact .inr hx)
    have e : encs (ints (r :: rs)) = encN r ++ encs (ints rs) := by
      show encs ((r : Int) :: ints rs) = _
      rw [encs_cons, encN_eq r hr]
    have hne : encN r ++ encs (ints rs) ≠ [] := by simp [encN_ne]
    have hb := bad_encN r hr (encs (ints rs))
    have hd := decode_encN r hr (encs (ints rs))
    rw [e, sc_ok hne hb, used_ok hne hb, hd]
    simp only [List.drop_left, List.length_append]
    exact ⟨by rw [ih'.1], by rw [ih'.2]⟩

/-! ### the order -/
theorem less_cons (x y : Nat) (s t : List UInt8) (hx : x < 256) (hy : y < 256) : Op.bytesLess (x.toUInt8 :: s) (y.toUInt8 :: t) = if x < y then true else if x = y then Op.bytesLess s t else false := by
  have e1 : (x.toUInt8 < y.toUInt8) ↔ x < y := by rw [UInt8.lt_iff_toNat_lt, toU8 x hx, toU8 y hy]
  have e2 : (x.toUInt8 = y.toUInt8) ↔ x = y := by rw [← UInt8.toNat_inj, toU8 x hx, toU8 y hy]
  simp only [Op.bytesLess]
  by_cases h1 : x < y
  · simp [e1, h1]
  · by_cases h2 : x = y
    · subst h2; simp
    · have : ¬ x.toUInt8 = y.toUInt8 := fun h => h2 (e2.1 h)
      simp [e1, h1, h2, this]
theorem less_prefix (p x y : List UInt8) : Op.bytesLess (p ++ x) (p ++ y) = Op.bytesLess x y := by
  induction p with
  | nil => rfl
  | cons a p ih => simp [Op.bytesLess, ih]

set_option maxHeartbeats 4000000 in
theorem less_enc (a b : Nat) (ha : valid (a : Int) = true) (hb : valid (b : Int) = true) (hne : a ≠ b) (x y : List UInt8) : Op.bytesLess (encN a ++ x) (encN b ++ y) = decide (a < b) := by
  rw [valid_iff] at ha hb
  have ka : a ≤ 1114111 := by omega
  have kb : b ≤ 1114111 := by omega
  clear ha hb
  unfold encN
  repeat' split
  all_goals simp only [List.cons_append, List.nil_append]
  all_goals rw [less_cons _ _ _ _ (by omega) (by omega)]
  all_goals split
  all_goals try (symm; rw [decide_eq_true_eq]; omega)
  all_goals try split
  all_goals try (symm; rw [decide_eq_false_iff_not]; omega)
  all_goals try (exfalso; omega)
  all_goals rw [less_cons _ _ _ _ (by omega) (by omega)]
  all_goals split
  all_goals try (symm; rw [decide_eq_true_eq]; omega)
  all_goals try split
  all_goals try (symm; rw [decide_eq_false_iff_not]; omega)
  all_goals try (exfalso; omega)
  all_goals rw [less_cons _ _ _ _ (by omega) (by omega)]
  all_goals split
  all_goals try (symm; rw [decide_eq_true_eq]; omega)
  all_goals try split
  all_goals try (symm; rw [decide_eq_false_iff_not]; omega)
  all_goals try (exfalso; omega)
  all_goals rw [less_cons _ _ _ _ (by omega) (by omega)]
  all_goals split
  all_goals try (symm; rw [decide_eq_true_eq]; omega)
  all_goals try split
  all_goals try (symm; rw [decide_eq_false_iff_not]; omega)
  all_goals try (exfalso; omega)

/-- The comparison of two lists of scalars: the first difference decides, else the length. -/
def lessS : List Nat → List Nat → Bool
  | _, [] => false
  | [], _ :: _ => true
  | a :: x, b :: y => if a = b then lessS x y else decide (a < b)
theorem less_nil_enc (b : Nat) (y : List UInt8) : Op.bytesLess [] (encN b ++ y) = true := by
  cases h : encN b with
  | nil => exact absurd h (encN_ne b)
  | cons c t => rfl
theorem less_nil_right (l : List UInt8) : Op.bytesLess l [] = false := by cases l <;> rfl

/-- ████ The order of the encodings is the order of the scalars. -/
theorem less_encs : ∀ (x y : List Nat), (∀ r ∈ ints x, valid r = true) → (∀ r ∈ ints y, valid r = true) → Op.bytesLess (encs (ints x)) (encs (ints y)) = lessS x y
  | x, [], _, _ => by
    rw [show encs (ints []) = [] from rfl, less_nil_right]
    cases x <;> rfl
  | [], b :: y, _, hy => by
    have hb : valid (b : Int) = true := hy _ (by simp [ints])
    rw [show encs (ints (b :: y)) = encN b ++ encs (ints y) by show encs ((b : Int) :: ints y) = _; rw [encs_cons, encN_eq b hb]]
    exact less_nil_enc b _
  | a :: x, b :: y, hx, hy => by
    have ha : valid (a : Int) = true := hx _ (by simp [ints])
    have hb : valid (b : Int) = true := hy _ (by simp [ints])
    have ih := less_encs x y (fun r hr => hx r (by simp only [ints, List.map_cons, List.mem_cons]; exact .inr hr)) (fun r hr => hy r (by simp only [ints, List.map_cons, List.mem_cons]; exact .inr hr))
    rw [show encs (ints (a :: x)) = encN a ++ encs (ints x) by show encs ((a : Int) :: ints x) = _; rw [encs_cons, encN_eq a ha],
      show encs (ints (b :: y)) = encN b ++ encs (ints y) by show encs ((b : Int) :: ints y) = _; rw [encs_cons, encN_eq b hb]]
    by_cases h : a = b
    · subst h; rw [less_prefix, ih]; simp [lessS]
    · rw [less_enc a b ha hb h]; simp [lessS, h]

theorem less_ok {s t : List UInt8} (hs : ok s = true) (ht : ok t = true) : Op.bytesLess s t = lessS (sc s) (sc t) := by
  rw [ok_iff] at hs ht
  rw [← less_encs _ _ (sc_valid s) (sc_valid t), encs_sc, encs_sc, hs, ht, List.take_length, List.take_length]

#print axioms less_ok
#print axioms sc_encs
end Go.Proofs.YtdbbacmnlmkilaaDoor.Cp
