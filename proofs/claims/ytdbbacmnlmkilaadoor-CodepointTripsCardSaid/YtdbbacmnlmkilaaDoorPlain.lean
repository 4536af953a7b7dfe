/- Plain facts on the bytes of UTF-8: how a list of bytes is taken apart into scalars, how it is extended, encoded and compared. No program is in sight. -/
import Derived.Lib.MapLaws
namespace Go.Proofs.YtdbbacmnlmkilaaDoor.Cp
open Go Go.Lib

/-- No well-formed sequence begins here. -/
def bad (l : List UInt8) : Bool := (decodeL l).1 == 65533 && (decodeL l).2 == 1
theorem bad_iff (l : List UInt8) : bad l = true ↔ ((decodeL l).1 = 65533 ∧ (decodeL l).2 = 1) := by simp [bad]
theorem bad_false (l : List UInt8) : bad l = false ↔ ¬ ((decodeL l).1 = 65533 ∧ (decodeL l).2 = 1) := by
  rw [← bad_iff]; simp

/-- The scalars ahead of the first place where no sequence begins, and the number of their bytes. -/
def decF : Nat → List UInt8 → List Nat × Nat
  | 0, _ => ([], 0)
  | n + 1, l => if l = [] then ([], 0) else if bad l = true then ([], 0)
      else ((decodeL l).1 :: (decF n (l.drop (decodeL l).2)).1, (decodeL l).2 + (decF n (l.drop (decodeL l).2)).2)
def sc (l : List UInt8) : List Nat := (decF l.length l).1
def used (l : List UInt8) : Nat := (decF l.length l).2

theorem decF_nil (n : Nat) : decF n [] = ([], 0) := by cases n <;> simp [decF]
theorem decF_fuel : ∀ (n m : Nat) (l : List UInt8), l.length ≤ n → l.length ≤ m → decF n l = decF m l
  | 0, m, l, hn, _ => by
    have : l = [] := List.eq_nil_of_length_eq_zero (by omega)
    subst this
    rw [decF_nil, decF_nil]
  | n + 1, 0, l, _, hm => by
    have : l = [] := List.eq_nil_of_length_eq_zero (by omega)
    subst this
    rw [decF_nil, decF_nil]
  | n + 1, m + 1, l, hn, hm => by
    by_cases h : l = []
    · subst h; rw [decF_nil, decF_nil]
    · have hw := decodeL_width l
      have hl : 0 < l.length := List.length_pos_iff.2 h
      have := decF_fuel n m (l.drop (decodeL l).2) (by rw [List.length_drop]; omega) (by rw [List.length_drop]; omega)
      simp only [decF, if_neg h, this]

theorem sc_nil : sc [] = [] := rfl
theorem used_nil : used [] = 0 := rfl
theorem sc_bad {l : List UInt8} (h : bad l = true) : sc l = [] := by
  unfold sc
  cases hn : l.length with
  | zero => rfl
  | succ n => simp only [decF, h, if_true]; split <;> rfl
theorem used_bad {l : List UInt8} (h : bad l = true) : used l = 0 := by
  unfold used
  cases hn : l.length with
  | zero => rfl
  | succ n => simp only [decF, h, if_true]; split <;> rfl
theorem dec_ok {l : List UInt8} (hne : l ≠ []) (h : bad l = false) :
    decF l.length l = ((decodeL l).1 :: sc (l.drop (decodeL l).2), (decodeL l).2 + used (l.drop (decodeL l).2)) := by
  have hl : 0 < l.length := List.length_pos_iff.2 hne
  have hw := decodeL_width l
  obtain ⟨n, hn⟩ : ∃ n, l.length = n + 1 := ⟨l.length - 1, by omega⟩
  have hf := decF_fuel n (l.drop (decodeL l).2).length (l.drop (decodeL l).2) (by rw [List.length_drop]; omega) (Nat.le_refl _)
  rw [hn]
  simp only [decF, if_neg hne, h, Bool.false_eq_true, if_false, hf, sc, used]
theorem sc_ok {l : List UInt8} (hne : l ≠ []) (h : bad l = false) : sc l = (decodeL l).1 :: sc (l.drop (decodeL l).2) := by
  show (decF l.length l).1 = _; rw [dec_ok hne h]
theorem used_ok {l : List UInt8} (hne : l ≠ []) (h : bad l = false) : used l = (decodeL l).2 + used (l.drop (decodeL l).2) := by
  show (decF l.length l).2 = _; rw [dec_ok hne h]

/-- Induction along the sequences. -/
theorem along {motive : List UInt8 → Prop} (nil : motive []) (bd : ∀ l, l ≠ [] → bad l = true → motive l)
    (ok : ∀ l, l ≠ [] → bad l = false → motive (l.drop (decodeL l).2) → motive l) : ∀ l, motive l := by
  have key : ∀ (n : Nat) (l : List UInt8), l.length ≤ n → motive l := by
    intro n
    induction n with
    | zero =>
      intro l hl
      have : l = [] := List.eq_nil_of_length_eq_zero (by omega)
      subst this; exact nil
    | succ n ih =>
      intro l hl
      by_cases hne : l = []
      · subst hne; exact nil
      · have hp : 0 < l.length := List.length_pos_iff.2 hne
        have hw := decodeL_width l
        cases hb : bad l with
        | true => exact bd l hne hb
        | false => exact ok l hne hb (ih _ (by rw [List.length_drop]; omega))
  exact fun l => key l.length l (Nat.le_refl _)

theorem used_le (l : List UInt8) : used l ≤ l.length := by
  refine along (motive := fun l => used l ≤ l.length) (by simp [used_nil]) (fun l _ h => by rw [used_bad h]; omega) (fun l hne h ih => ?_) l
  have := decodeL_le l hne
  rw [used_ok hne h]; rw [List.length_drop] at ih; omega
theorem sc_le (l : List UInt8) : (sc l).length ≤ used l := by
  refine along (motive := fun l => (sc l).length ≤ used l) (by simp [sc_nil]) (fun l _ h => by rw [sc_bad h]; simp) (fun l hne h ih => ?_) l
  have := decodeL_width l
  rw [used_ok hne h, sc_ok hne h, List.length_cons]; omega
/-- What is left is empty, or begins with no sequence. -/
theorem rest_bad (l : List UInt8) : l.drop (used l) = [] ∨ bad (l.drop (used l)) = true := by
  refine along (motive := fun l => l.drop (used l) = [] ∨ bad (l.drop (used l)) = true) (by simp) (fun l _ h => by rw [used_bad h]; simpa using .inr h) (fun l hne h ih => ?_) l
  rw [used_ok hne h, ← List.drop_drop]; exact ih

/-- Valid: nothing is left. -/
def ok (l : List UInt8) : Bool := used l == l.length
theorem ok_iff (l : List UInt8) : ok l = true ↔ used l = l.length := by simp [ok]
theorem ok_false (l : List UInt8) : ok l = false ↔ used l < l.length := by
  have := used_le l
  simp [ok]; omega

/-! ### what is appended -/
theorem getD_append_lt (l m : List UInt8) (k : Nat) (h : k < l.length) : (l ++ m).getD k 0 = l.getD k 0 := by
  simp [List.getD, List.getElem?_append_left h]

/-- A sequence that is whole is not turned by what follows. -/
theorem decodeL_append {l : List UInt8} (hne : l ≠ []) (h : bad l = false) (m : List UInt8) : decodeL (l ++ m) = decodeL l := by
  rw [bad_false] at h
  have hl : 0 < l.length := List.length_pos_iff.2 hne
  have g0 := getD_append_lt l m 0 hl
  rw [decodeL_N] at h
  rw [decodeL_N, decodeL_N, g0, List.length_append]
  rcases decodeN_shape l.length (l.getD 0 0).toNat (l.getD 1 0).toNat (l.getD 2 0).toNat (l.getD 3 0).toNat with ⟨c, e⟩ | ⟨c1, c2, c3, cv, e⟩ | ⟨c1, c2, c3, c4, cv, cs, e⟩ | ⟨c1, c2, c3, c4, c5, cv, cw, e⟩ | e
  · rw [e]; unfold decodeN; rw [if_pos c]
  · rw [e, getD_append_lt l m 1 (by omega)]; unfold decodeN
    rw [if_neg (by omega), if_pos ⟨c1, by omega, c3⟩, if_pos (by omega)]
  · rw [e, getD_append_lt l m 1 (by omega), getD_append_lt l m 2 (by omega)]; unfold decodeN
    rw [if_neg (by omega), if_neg (by omega), if_pos ⟨c1, ⟨by omega, c3⟩, by omega, c4⟩, if_pos ⟨by omega, by omega⟩]
  · rw [e, getD_append_lt l m 1 (by omega), getD_append_lt l m 2 (by omega), getD_append_lt l m 3 (by omega)]; unfold decodeN
    rw [if_neg (by omega), if_neg (by omega), if_neg (by omega), if_pos ⟨c1, ⟨by omega, c3⟩, ⟨by omega, c4⟩, by omega, c5⟩, if_pos ⟨by omega, by omega⟩]
  · rw [e] at h; exact absurd ⟨rfl, rfl⟩ h

theorem bad_append {l : List UInt8} (hne : l ≠ []) (h : bad l = false) (m : List UInt8) : bad (l ++ m) = false := by
  unfold bad at h ⊢; rw [decodeL_append hne h m]; exact h

theorem used_append (l m : List UInt8) : used (l ++ m) = used l + used (l.drop (used l) ++ m) := by
  refine along (motive := fun l => used (l ++ m) = used l + used (l.drop (used l) ++ m)) (by simp [used_nil]) (fun l _ h => by rw [used_bad h]; simp) (fun l hne h ih => ?_) l
  have hle := decodeL_le l hne
  rw [used_ok (l := l ++ m) (by simp [hne]) (bad_append hne h m), decodeL_append hne h m, List.drop_append_of_le_length hle, ih, used_ok hne h, ← List.drop_drop]; omega
theorem sc_append (l m : List UInt8) : sc (l ++ m) = sc l ++ sc (l.drop (used l) ++ m) := by
  refine along (motive := fun l => sc (l ++ m) = sc l ++ sc (l.drop (used l) ++ m)) (by simp [used_nil, sc_nil]) (fun l _ h => by rw [used_bad h, sc_bad h]; simp) (fun l hne h ih => ?_) l
  have hle := decodeL_le l hne
  rw [sc_ok (l := l ++ m) (by simp [hne]) (bad_append hne h m), decodeL_append hne h m, List.drop_append_of_le_length hle, ih, sc_ok hne h, used_ok hne h, ← List.drop_drop]; rfl
theorem drop_append_rest (l m : List UInt8) : (l ++ m).drop (used (l ++ m)) = (l.drop (used l) ++ m).drop (used (l.drop (used l) ++ m)) := by
  rw [used_append, ← List.drop_drop, List.drop_append_of_le_length (used_le l)]

/-- Behind a valid list another stands as if it stood alone. -/
theorem used_behind {l : List UInt8} (h : ok l = true) (m : List UInt8) : used (l ++ m) = l.length + used m := by
  rw [ok_iff] at h
  rw [used_append, h, List.drop_length, List.nil_append]

#print axioms drop_append_rest
#print axioms used_behind
end Go.Proofs.YtdbbacmnlmkilaaDoor.Cp
