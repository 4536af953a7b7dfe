/- Plain facts on the lines of a source behind which another is laid. -/
import Derived.Test.YtcjhipcjhgicoaaDoorLaw6
namespace Go.Proofs.YtcjhipcjhgicoaaDoor.Po
open Go Go.Lib

theorem bgN_append (a b : List UInt8) (m : Nat) : bgN (a ++ b) (a.length + m) = bgN a a.length ++ (bgN b m).map (· + a.length) := by
  induction m with
  | zero =>
    have key : ∀ n, n ≤ a.length → bgN (a ++ b) n = bgN a n := by
      intro n
      induction n with
      | zero => intro _; rfl
      | succ n ih =>
        intro hn
        simp only [bgN]
        rw [ih (by omega), List.getElem?_append_left (by omega)]
    simp [key a.length (Nat.le_refl _), bgN]
  | succ m ih =>
    have e : (a ++ b)[a.length + m]? = b[m]? := by rw [List.getElem?_append_right (by omega)]; congr 1; omega
    show bgN (a ++ b) (a.length + m) ++ (if (a ++ b)[a.length + m]? = some 10 then [a.length + m + 1] else []) = _
    rw [ih, e]
    simp only [bgN, List.map_append, List.append_assoc]
    congr 2
    split
    · simp; omega
    · rfl
theorem bg_append (a b : List UInt8) : bg (a ++ b) = bg a ++ (bg b).map (· + a.length) := by
  rw [bg, List.length_append, bgN_append, bg, bg]
/-- Behind a source that ends in a line feed another keeps its lines. -/
theorem beg_behind {a b : List UInt8} {k : Nat} (hk : k ≤ (bg b).length) : beg ((a ++ [10]) ++ b) ((bg (a ++ [10])).length + k) = beg b k + (a.length + 1) := by
  have h1 : bg (a ++ [10]) = bg a ++ [a.length + 1] := by
    rw [bg_append]
    have : bg [10] = [1] := by decide
    rw [this]; simp; omega
  cases k with
  | zero =>
    rw [h1]
    simp only [List.length_append, List.length_singleton, Nat.add_zero]
    show (bg ((a ++ [10]) ++ b)).getD (bg a).length 0 = _
    rw [bg_append, h1]
    rw [List.getD_eq_getElem?_getD, List.getElem?_append_left (by simp), List.getElem?_append_right (by omega)]
    simp [beg]
  | succ j =>
    obtain ⟨x, hx, _⟩ := bg_get (l := b) (j := j) (by omega)
    show (bg ((a ++ [10]) ++ b)).getD ((bg (a ++ [10])).length + j) 0 = _
    rw [bg_append, List.getD_eq_getElem?_getD, List.getElem?_append_right (by omega), Nat.add_sub_cancel_left, List.getElem?_map, hx]
    simp only [Option.map_some, Option.getD_some, List.length_append, List.length_singleton]
    rw [beg, getD_of hx]
theorem len_behind (a b : List UInt8) : (bg ((a ++ [10]) ++ b)).length = (bg (a ++ [10])).length + (bg b).length := by rw [bg_append, List.length_append, List.length_map]
theorem fin_behind {a b : List UInt8} {k : Nat} (hk : k ≤ (bg b).length) : fin ((a ++ [10]) ++ b) ((bg (a ++ [10])).length + k) = fin b k + (a.length + 1) := by
  by_cases h : k = (bg b).length
  · rw [fin, if_pos (by rw [len_behind]; omega), fin, if_pos h]
    simp; omega
  · obtain ⟨x, hx, h1, _⟩ := bg_get (l := b) (j := k) (by omega)
    rw [fin, if_neg (by rw [len_behind]; omega), fin, if_neg h, getD_of hx]
    rw [bg_append, List.getD_eq_getElem?_getD, List.getElem?_append_right (by omega), Nat.add_sub_cancel_left, List.getElem?_map, hx]
    simp only [Option.map_some, Option.getD_some, List.length_append, List.length_singleton]
    omega
theorem extract_behind (p b : ByteArray) (x y : Nat) : (p ++ b).extract (x + p.size) (y + p.size) = b.extract x y := by
  have h : ((p ++ b).extract (x + p.size) (y + p.size)).data.toList = (b.extract x y).data.toList := by
    rw [Lib.extract_data, Lib.extract_data]
    have e : (p ++ b).data.toList = p.data.toList ++ b.data.toList := by simp
    have ep : p.data.toList.length = p.size := by simp
    rw [e, List.drop_append, List.drop_eq_nil_of_le (by omega), List.nil_append, ep, Nat.add_sub_cancel, show y + p.size - (x + p.size) = y - x by omega]
  exact ByteArray.ext (Array.toList_inj.1 h)
/-- The lines behind are the lines of what is behind. -/
theorem lineB_behind {p b : ByteArray} {a : List UInt8} {k ny nz : Nat} (hp : p.data.toList = a ++ [10]) (hy : (bg b.data.toList).length = ny) (hz : (bg (p ++ b).data.toList).length = nz) (hk : k ≤ ny) :
    lineB (p ++ b) nz ((bg p.data.toList).length + k) = lineB b ny k := by
  have e : (p ++ b).data.toList = p.data.toList ++ b.data.toList := by simp
  have ep : p.size = a.length + 1 := by
    have : p.data.toList.length = p.size := by simp
    rw [← this, hp]; simp
  have hb : beg (p ++ b).data.toList ((bg p.data.toList).length + k) = beg b.data.toList k + p.size := by rw [e, hp, beg_behind (by omega), ep]
  have hf : fin (p ++ b).data.toList ((bg p.data.toList).length + k) = fin b.data.toList k + p.size := by rw [e, hp, fin_behind (by omega), ep]
  have hn : nz = (bg p.data.toList).length + ny := by rw [← hz, e, hp, len_behind, hy]
  rw [lineB, lineB, hb, hf, extract_behind]
  by_cases h : k < ny
  · rw [if_pos h, if_pos (by omega)]
  · rw [if_neg h, if_neg (by omega)]
end Go.Proofs.YtcjhipcjhgicoaaDoor.Po
