/- Plain facts on lines: the offsets behind the line feeds of a list of bytes. No program is in sight. -/
import GoSem.Op.String
namespace Go.Proofs.YtcjhipcjhgicoaaDoor.Po

/-- The offsets behind the line feeds among the first n bytes. -/
def bgN (l : List UInt8) : Nat → List Nat
  | 0 => []
  | n + 1 => bgN l n ++ (if l[n]? = some 10 then [n + 1] else [])
/-- The offsets at which the lines begin, after the first one. -/
def bg (l : List UInt8) : List Nat := bgN l l.length
theorem bgN_hit {l : List UInt8} {n : Nat} (h : l[n]? = some 10) : bgN l (n + 1) = bgN l n ++ [n + 1] := by simp [bgN, h]
theorem bgN_miss {l : List UInt8} {n : Nat} (h : l[n]? ≠ some 10) : bgN l (n + 1) = bgN l n := by simp [bgN, h]
theorem bgN_len (l : List UInt8) (n : Nat) : (bgN l n).length ≤ n := by
  induction n with
  | zero => simp [bgN]
  | succ n ih => simp only [bgN, List.length_append]; split <;> simp <;> omega
theorem bg_len (l : List UInt8) : (bg l).length ≤ l.length := bgN_len l _
/-- What the offsets are. -/
theorem mem_bgN {l : List UInt8} {n b : Nat} : b ∈ bgN l n ↔ 1 ≤ b ∧ b ≤ n ∧ l[b - 1]? = some 10 := by
  induction n with
  | zero => simp [bgN]; omega
  | succ n ih =>
    simp only [bgN, List.mem_append, ih]
    split
    · rename_i h
      simp only [List.mem_singleton]
      constructor
      · rintro (⟨h1, h2, h3⟩ | rfl)
        · exact ⟨h1, by omega, h3⟩
        · exact ⟨by omega, by omega, by simpa using h⟩
      · rintro ⟨h1, h2, h3⟩
        by_cases hb : b = n + 1
        · exact Or.inr hb
        · exact Or.inl ⟨h1, by omega, h3⟩
    · rename_i h
      simp only [List.not_mem_nil, or_false]
      constructor
      · rintro ⟨h1, h2, h3⟩; exact ⟨h1, by omega, h3⟩
      · rintro ⟨h1, h2, h3⟩
        refine ⟨h1, ?_, h3⟩
        rcases Nat.lt_or_ge n b with hb | hb
        · obtain rfl : b = n + 1 := by omega
          exact absurd (by simpa using h3) h
        · exact hb
/-- The offsets are in order. -/
theorem bgN_sorted (l : List UInt8) (n : Nat) : (bgN l n).Pairwise (· < ·) := by
  induction n with
  | zero => simp [bgN]
  | succ n ih =>
    simp only [bgN]
    split
    · rw [List.pairwise_append]
      refine ⟨ih, by simp, fun a ha b hb => ?_⟩
      simp at hb
      have := (mem_bgN.1 ha).2.1
      omega
    · simpa using ih
theorem bg_lt {l : List UInt8} {i j x y : Nat} (h : i < j) (hx : (bg l)[i]? = some x) (hy : (bg l)[j]? = some y) : x < y := by
  obtain ⟨hi, rfl⟩ := List.getElem?_eq_some_iff.1 hx
  obtain ⟨hj, rfl⟩ := List.getElem?_eq_some_iff.1 hy
  exact (List.pairwise_iff_getElem.1 (bgN_sorted l l.length)) i j hi hj h
/-- The offset at which a line begins. -/
def beg (l : List UInt8) (k : Nat) : Nat := match k with | 0 => 0 | k + 1 => (bg l).getD k 0
/-- The offset of the line feed of a line, or that of the end. -/
def fin (l : List UInt8) (k : Nat) : Nat := if k = (bg l).length then l.length else (bg l).getD k 0 - 1
end Go.Proofs.YtcjhipcjhgicoaaDoor.Po
