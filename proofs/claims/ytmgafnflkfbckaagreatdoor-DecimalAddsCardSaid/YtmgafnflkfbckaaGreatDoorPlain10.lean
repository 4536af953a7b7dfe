/- Products of digits, place by place. -/
import Derived.Test.YtmgafnflkfbckaaGreatDoorPlain7
namespace Go.Proofs.YtmgafnflkfbckaaGreatDoor.Dc
open Go Go.Lib

theorem num_set : ∀ {L : List Nat} {p v u : Nat}, L[p]? = some v → num (L.set p u) + v * 10 ^ (L.length - 1 - p) = num L + u * 10 ^ (L.length - 1 - p)
  | [], p, v, u, h => by simp at h
  | x :: L, 0, v, u, h => by
    simp at h
    subst h
    rw [List.set_cons_zero, num, num, List.length_cons, Nat.add_sub_cancel, Nat.sub_zero]
    omega
  | x :: L, p + 1, v, u, h => by
    have hp : p < L.length := (List.getElem?_eq_some_iff.1 (by simpa using h : L[p]? = some v)).1
    have ih := num_set (L := L) (p := p) (v := v) (u := u) (by simpa using h)
    rw [List.set_cons_succ, num, num, List.length_set, List.length_cons, show L.length + 1 - 1 - (p + 1) = L.length - 1 - p by omega]
    omega
theorem num_drop {l : List Nat} {k x : Nat} (h : l[k]? = some x) : num (l.drop k) = x * 10 ^ (l.length - 1 - k) + num (l.drop (k + 1)) := by
  obtain ⟨hk, e⟩ := List.getElem?_eq_some_iff.1 h
  rw [List.drop_eq_getElem_cons hk, e, num, List.length_drop, show l.length - (k + 1) = l.length - 1 - k by omega]
theorem num_take {l : List Nat} {k x : Nat} (h : l[k]? = some x) : num (l.take (k + 1)) = num (l.take k) * 10 + x := by
  rw [List.take_add_one, h, Option.toList_some, num_append]
  simp [num]
/-- The rows that are added, row i from place kk on. -/
def rowsAt (a b : List Nat) (i kk : Nat) : Nat := num (a.drop (i + 1)) * num b + a.getD i 0 * num (b.drop kk) * 10 ^ (a.length - 1 - i)
theorem rows_begin {a b : List Nat} {i : Nat} : rowsAt a b i b.length = num (a.drop (i + 1)) * num b := by
  rw [rowsAt, List.drop_length, num]; simp
theorem rows_end {a b : List Nat} {i x : Nat} (h : a[i]? = some x) : rowsAt a b i 0 = num (a.drop i) * num b := by
  have e : a.getD i 0 = x := by rw [List.getD_eq_getElem?_getD, h]; rfl
  rw [rowsAt, num_drop h, e, List.drop_zero, Nat.add_mul, Nat.add_comm, Nat.mul_assoc x, Nat.mul_comm (num b), Nat.mul_assoc x]
theorem rows_step {a b : List Nat} {i k x y : Nat} (hx : a[i]? = some x) (hy : b[k]? = some y) : rowsAt a b i k = rowsAt a b i (k + 1) + x * y * 10 ^ (a.length + b.length - 1 - (i + k + 1)) := by
  obtain ⟨hi, _⟩ := List.getElem?_eq_some_iff.1 hx
  obtain ⟨hk, _⟩ := List.getElem?_eq_some_iff.1 hy
  have e : a.getD i 0 = x := by rw [List.getD_eq_getElem?_getD, hx]; rfl
  rw [rowsAt, rowsAt, num_drop hy, e, show a.length + b.length - 1 - (i + k + 1) = (b.length - 1 - k) + (a.length - 1 - i) by omega, Nat.pow_add, Nat.mul_add, Nat.add_mul]
  generalize num (a.drop (i + 1)) * num b = A
  generalize 10 ^ (b.length - 1 - k) = B
  generalize 10 ^ (a.length - 1 - i) = C
  generalize num (b.drop (k + 1)) = D
  have : x * (y * B) * C = x * y * (B * C) := by rw [← Nat.mul_assoc x, Nat.mul_assoc]
  omega
/-- A product added at its place. -/
theorem acc_step {a b L : List Nat} {i k x y v : Nat} (hL : L.length = a.length + b.length) (hx : a[i]? = some x) (hy : b[k]? = some y) (hv : L[i + k + 1]? = some v) (h : num L = rowsAt a b i (k + 1)) :
    num (L.set (i + k + 1) (v + x * y)) = rowsAt a b i k := by
  have h1 := num_set (u := v + x * y) hv
  rw [hL] at h1
  rw [rows_step hx hy, ← h]
  rw [Nat.add_mul] at h1
  omega
/-- The same with a carry. -/
theorem car_step {a b L : List Nat} {i k x y v c : Nat} (hL : L.length = a.length + b.length) (hx : a[i]? = some x) (hy : b[k]? = some y) (hv : L[i + k + 1]? = some v)
    (h : num L + c * 10 ^ (a.length + b.length - 1 - (i + (k + 1))) = rowsAt a b i (k + 1)) :
    num (L.set (i + k + 1) ((v + x * y + c) % 10)) + (v + x * y + c) / 10 * 10 ^ (a.length + b.length - 1 - (i + k)) = rowsAt a b i k := by
  obtain ⟨hi, _⟩ := List.getElem?_eq_some_iff.1 hx
  obtain ⟨hk, _⟩ := List.getElem?_eq_some_iff.1 hy
  have h1 := num_set (u := (v + x * y + c) % 10) hv
  rw [hL] at h1
  rw [rows_step hx hy, ← h, show a.length + b.length - 1 - (i + k) = (a.length + b.length - 1 - (i + k + 1)) + 1 by omega, Nat.pow_succ, show i + (k + 1) = i + k + 1 by omega]
  generalize 10 ^ (a.length + b.length - 1 - (i + k + 1)) = P at *
  obtain ⟨q, hq⟩ : ∃ q, v + x * y + c = q := ⟨_, rfl⟩
  rw [hq] at h1 ⊢
  have h2 : q / 10 * (P * 10) + q % 10 * P = q * P := by
    have := Nat.div_add_mod q 10
    rw [Nat.mul_comm P 10, ← Nat.mul_assoc, ← Nat.add_mul, Nat.mul_comm (q / 10) 10, this]
  have h3 : q * P = v * P + x * y * P + c * P := by rw [← hq, Nat.add_mul, Nat.add_mul]
  omega
theorem car_end {a b L : List Nat} {i x v c : Nat} (hL : L.length = a.length + b.length) (hx : a[i]? = some x) (hv : L[i]? = some v)
    (h : num L + c * 10 ^ (a.length + b.length - 1 - (i + 0)) = rowsAt a b i 0) : num (L.set i (v + c)) = num (a.drop i) * num b := by
  have h1 := num_set (u := v + c) hv
  rw [hL, Nat.add_mul] at h1
  rw [← rows_end hx, ← h, Nat.add_zero]
  omega
/-- The carries, from the last place on. -/
theorem pass_step {L B : List Nat} {q v u T V : Nat} (hT : q + 1 + 1 + B.length = T) (hv : L[q + 1]? = some v) (hu : L[q]? = some u) (h : num (L.take (q + 1 + 1)) * 10 ^ B.length + num B = V) :
    num ((L.set q (u + v / 10)).take (q + 1)) * 10 ^ (v % 10 :: B).length + num (v % 10 :: B) = V := by
  obtain ⟨hq, _⟩ := List.getElem?_eq_some_iff.1 hu
  have e1 : (L.set q (u + v / 10)).take (q + 1) = (L.take (q + 1)).set q (u + v / 10) := by rw [List.take_set]
  have hu' : (L.take (q + 1))[q]? = some u := by rw [List.getElem?_take, if_pos (by omega)]; exact hu
  have h1 := num_set (u := u + v / 10) hu'
  have hl : (L.take (q + 1)).length - 1 - q = 0 := by rw [List.length_take]; omega
  rw [hl, Nat.pow_zero, Nat.mul_one, Nat.mul_one] at h1
  rw [num_take hv] at h
  rw [e1, num, List.length_cons, Nat.pow_succ]
  have e2 : num ((L.take (q + 1)).set q (u + v / 10)) = num (L.take (q + 1)) + v / 10 := by omega
  rw [e2, ← h]
  generalize 10 ^ B.length = P
  generalize num (L.take (q + 1)) = A
  have h3 : v / 10 * 10 + v % 10 = v := by omega
  have h4 : (A + v / 10) * (P * 10) + v % 10 * P = (A * 10 + v) * P := by
    have : (A * 10 + v) * P = (A * 10 + (v / 10 * 10 + v % 10)) * P := by rw [h3]
    rw [this]
    grind
  omega
theorem pass_end {L B : List Nat} {v V : Nat} (hv : L[0]? = some v) (h : num (L.take 1) * 10 ^ B.length + num B = V) (hV : V < 10 ^ (B.length + 1)) : num (v % 10 :: B) = V ∧ v < 10 := by
  have e : num (L.take 1) = v := by
    have := num_take (k := 0) hv
    simpa [num] using this
  rw [e] at h
  have hP : 0 < 10 ^ B.length := Nat.pow_pos (by omega)
  have hlt : v < 10 := by
    refine Nat.lt_of_not_le fun hge => ?_
    have := Nat.mul_le_mul_right (10 ^ B.length) hge
    rw [Nat.pow_succ] at hV
    omega
  rw [num, Nat.mod_eq_of_lt hlt]
  exact ⟨h, hlt⟩
end Go.Proofs.YtmgafnflkfbckaaGreatDoor.Dc
