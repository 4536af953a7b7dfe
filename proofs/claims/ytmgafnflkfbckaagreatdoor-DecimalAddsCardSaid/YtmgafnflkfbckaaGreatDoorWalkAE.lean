/- Rows that are written; the increment of Round, plainly. -/
import Derived.Test.YtmgafnflkfbckaaGreatDoorApp
import Derived.Test.YtmgafnflkfbckaaGreatDoorPlain9
namespace Go.Proofs.YtmgafnflkfbckaaGreatDoor
open Go.RowKit Go.Lib

/-- A block whose first cells are a row, and that may be written. -/
def Row (w : World) (g : Nat) (t : TypeId) (cap : Nat) (xs : List Value) : Prop := ∃ cur, w.heap[g]? = some (.cells cur t (0, 0)) ∧ cur.size = cap ∧ xs.length ≤ cap ∧ cur.toList.take xs.length = xs
section
variable {w w' : World} {g cap : Nat} {t : TypeId} {xs : List Value}
theorem Row.of_own {base n : Nat} {A : Option Addr} (h : w.ownsRow base t 1 (.slice A n cap) n xs) (hn : 0 < n) : ∃ g, A = some ⟨g, 0, none⟩ ∧ base ≤ g ∧ Row w g t cap xs ∧ xs.length = n ∧ g < w.heap.size := by
  obtain ⟨h1, h2⟩ := h
  rw [Nat.mul_one] at h1
  rcases h2 with ⟨_, h2⟩ | ⟨g, cap', cur, hv, hb, hg, hc1, hc2, hc3, hc4⟩
  · omega
  · injection hv with hA _ hcap
    subst hcap
    rw [Nat.mul_one] at hc3 hc4
    exact ⟨g, hA, hb, ⟨cur, hg, hc3, by omega, by rw [h1]; exact hc4⟩, h1, lt_of_block hg⟩
theorem Row.at_ (h : Row w g t cap xs) {i : Nat} {v : Value} (hv : xs[i]? = some v) : w.cell? ⟨g, i, none⟩ = some v := by
  obtain ⟨cur, hg, h1, h2, h3⟩ := h
  refine at_block hg i v ?_
  have hi : i < xs.length := (List.getElem?_eq_some_iff.1 hv).1
  rw [← h3, List.getElem?_take, if_pos hi] at hv
  simpa using hv
theorem Row.free (h : Row w g t cap xs) (i : Nat) : w.frozen? ⟨g, i, none⟩ = false := by
  obtain ⟨cur, hg, _⟩ := h
  exact free_block hg i
theorem Row.on (h : Row w g t cap xs) (hb : Below w.heap.size w w') : Row w' g t cap xs := by
  obtain ⟨cur, hg, hr⟩ := h
  exact ⟨cur, (hb.block g (lt_of_block hg)).trans hg, hr⟩
theorem Row.below {B : Nat} (h : Row w g t cap xs) (hb : Below B w w') (hg : g < B) : Row w' g t cap xs := by
  obtain ⟨cur, hc, hr⟩ := h
  exact ⟨cur, (hb.block g hg).trans hc, hr⟩
theorem Row.set (h : Row w g t cap xs) {i : Nat} (_hi : i < xs.length) (v : Value) : Row (w.setCell ⟨g, i, none⟩ v) g t cap (xs.set i v) := by
  obtain ⟨cur, hg, h1, h2, h3⟩ := h
  refine ⟨cur.setIfInBounds i v, block_set hg i v, by simp [h1], by simpa using h2, ?_⟩
  rw [List.length_set, Array.toList_setIfInBounds, List.take_set, h3]
theorem Row.lt (h : Row w g t cap xs) : g < w.heap.size := by
  obtain ⟨cur, hg, _⟩ := h
  exact lt_of_block hg
theorem Row.reads (h : Row w g t cap xs) : Reads w w.heap.size (some ⟨g, 0, none⟩) xs.length xs :=
  ⟨rfl, fun _ => ⟨g, 0, rfl, h.lt, fun j u hu => by rw [Nat.zero_add]; exact h.at_ hu⟩⟩
end
theorem u8s_set' (l : List Nat) (q x : Nat) : u8s (l.set q x) = (u8s l).set q (.int .u8 (x : Int)) := by simp [u8s, List.map_set]
theorem i64s_set' (l : List Nat) (q x : Nat) : i64s (l.set q x) = (i64s l).set q (.int .i64 (x : Int)) := by simp [i64s, List.map_set]

namespace Dc
theorem inc_nines : ∀ m, incL (List.replicate m 9) = (List.replicate m 0, true)
  | 0 => rfl
  | m + 1 => by rw [List.replicate_succ, incL, inc_nines m]; simp [List.replicate_succ]
theorem inc_at {A : List Nat} {x m : Nat} (hx : x ≠ 9) : incL (A ++ x :: List.replicate m 9) = (A ++ (x + 1) :: List.replicate m 0, false) := by
  induction A with
  | nil => rw [List.nil_append, incL, inc_nines]; simp [hx]
  | cons a A ih => rw [List.cons_append, incL, ih]; rfl
/-- A step of the increment: a nine becomes a zero. -/
theorem inc_step {L : List Nat} {i m : Nat} (h9 : L[i]? = some 9) (hd : L.drop (i + 1) = List.replicate m 9) :
    L.drop i = List.replicate (m + 1) 9 ∧ (L.take (i + 1) ++ List.replicate m 0).set i 0 = L.take i ++ List.replicate (m + 1) 0 := by
  obtain ⟨hi, e⟩ := List.getElem?_eq_some_iff.1 h9
  refine ⟨by rw [List.drop_eq_getElem_cons hi, e, hd, List.replicate_succ], ?_⟩
  have hl : (L.take i).length = i := by rw [List.length_take]; omega
  rw [List.take_add_one, h9, Option.toList_some, List.append_assoc, List.set_append_right _ _ (by omega), hl, Nat.sub_self]
  simp [List.replicate_succ]
theorem inc_done {L : List Nat} {i m x : Nat} (hx : L[i]? = some x) (hx9 : x ≠ 9) (hd : L.drop (i + 1) = List.replicate m 9) :
    (L.take (i + 1) ++ List.replicate m 0).set i (x + 1) = (incL L).1 := by
  obtain ⟨hi, e⟩ := List.getElem?_eq_some_iff.1 hx
  have hL : L = L.take i ++ x :: List.replicate m 9 := by
    rw [← hd, ← e, ← List.drop_eq_getElem_cons hi, List.take_append_drop]
  have hl : (L.take i).length = i := by rw [List.length_take]; omega
  have h2 : (incL L).1 = L.take i ++ (x + 1) :: List.replicate m 0 := by
    rw [show incL L = incL (L.take i ++ x :: List.replicate m 9) from congrArg incL hL, inc_at hx9]
  rw [h2, List.take_add_one, hx, Option.toList_some, List.append_assoc, List.set_append_right _ _ (by omega), hl, Nat.sub_self]
  simp
theorem inc_cur {L : List Nat} {i m : Nat} (hi : i < L.length) (hm : i + 1 + m = L.length) : (L.take (i + 1) ++ List.replicate m 0).length = L.length ∧ (L.take (i + 1) ++ List.replicate m 0)[i]? = L[i]? := by
  refine ⟨by rw [List.length_append, List.length_take, List.length_replicate]; omega, ?_⟩
  rw [List.getElem?_append_left (by rw [List.length_take]; omega), List.getElem?_take, if_pos (by omega)]
end Dc
end Go.Proofs.YtmgafnflkfbckaaGreatDoor
