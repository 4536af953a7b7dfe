/- The texts of decimals read back: plain facts. -/
import Derived.Test.YtjapgpmoojfhnaaGreatDoorPlain
namespace Go.Proofs.YtjapgpmoojfhnaaGreatDoor.Dc
open Go Go.Lib

theorem parse_append (l m : List UInt8) : ∀ acc, parseUint10 acc (l ++ m) = match parseUint10 acc l with
    | .ok v => parseUint10 v m
    | .range => .range
    | x => x := by
  induction l with
  | nil => intro acc; rfl
  | cons c l ih =>
    intro acc
    simp only [List.cons_append, parseUint10]
    split
    · split
      · rfl
      · split
        · rfl
        · exact ih _
    · rfl
theorem dig_toNat {x : Nat} (h : x < 10) : (UInt8.ofNat (48 + x)).toNat = 48 + x := digB_toNat h
theorem parse_dec (u : Nat) (h : u < 1000000000000000000) : parseUint10 0 (decDigits u) = .ok u := by
  induction u using Nat.strongRecOn with
  | _ u ih =>
    by_cases h10 : u < 10
    · rw [decDigits, dif_pos h10]
      simp only [parseUint10, dig_toNat h10]
      rw [if_pos (by omega), if_neg (by omega), if_neg (by omega)]
      congr 1; omega
    · rw [decDigits, dif_neg h10, parse_append, ih (u / 10) (by omega) (by omega)]
      have hd : u % 10 < 10 := by omega
      simp only [parseUint10, dig_toNat hd]
      rw [if_pos (by omega), if_neg (by omega), if_neg (by omega)]
      congr 1; omega
theorem dec_ne (u : Nat) : decDigits u ≠ [] := by
  rw [decDigits]
  split
  · simp
  · simp
theorem dec_mem (u : Nat) : ∀ b ∈ decDigits u, 48 ≤ b.toNat ∧ b.toNat ≤ 57 := by
  induction u using Nat.strongRecOn with
  | _ u ih =>
    intro b hb
    rw [decDigits] at hb
    by_cases h10 : u < 10
    · rw [dif_pos h10] at hb
      simp only [List.mem_singleton] at hb
      rw [hb, dig_toNat h10]; omega
    · rw [dif_neg h10] at hb
      rcases List.mem_append.1 hb with hb | hb
      · exact ih _ (by omega) b hb
      · simp only [List.mem_singleton] at hb
        rw [hb, dig_toNat (by omega)]; omega
theorem atoi_itoa {n : Int} (h0 : -1000000000000000000 < n) (h1 : n < 1000000000000000000) : atoiAll (itoa n) = .ok n := by
  by_cases hn : n < 0
  · have hp := parse_dec n.natAbs (by omega)
    have hm : parseMag (decDigits n.natAbs) = .ok n.natAbs := by rw [parseMag, if_neg (dec_ne _), hp]
    rw [itoa, if_pos hn]
    simp [atoiAll, hm]
    rw [if_neg (by omega)]
    congr 1; omega
  · have hp := parse_dec n.toNat (by omega)
    have hm : parseMag (decDigits n.toNat) = .ok n.toNat := by rw [parseMag, if_neg (dec_ne _), hp]
    obtain ⟨b, r, hbr⟩ : ∃ b r, decDigits n.toNat = b :: r := by
      cases h : decDigits n.toNat with
      | nil => exact absurd h (dec_ne _)
      | cons b r => exact ⟨b, r, rfl⟩
    have hb := dec_mem n.toNat b (by rw [hbr]; simp)
    rw [itoa, if_neg hn]
    rw [hbr] at hm ⊢
    have h45 : ¬ b.toNat = 45 := by omega
    have h43 : ¬ b.toNat = 43 := by omega
    simp [atoiAll, h43, h45, hm]
    rw [if_neg (by omega)]
    congr 1; omega
theorem itoa_len {n : Int} (h0 : -2000 ≤ n) (h1 : n ≤ 2000) : (itoa n).length ≤ 5 := by
  have key : ∀ u, u ≤ 2000 → (decDigits u).length ≤ 4 := by
    intro u hu
    rw [decDigits]
    split
    · simp
    · rw [decDigits]
      split
      · simp
      · rw [decDigits]
        split
        · simp
        · rw [decDigits, dif_pos (by omega)]; simp
  rw [itoa]
  split
  · have := key n.natAbs (by omega)
    simp; omega
  · have := key n.toNat (by omega)
    omega

def isDig (b : UInt8) : Bool := decide (48 ≤ b.toNat) && decide (b.toNat ≤ 57)
theorem isDig_iff {b : UInt8} : isDig b = true ↔ 48 ≤ b.toNat ∧ b.toNat ≤ 57 := by simp [isDig]
def vals (l : List UInt8) : List Nat := l.map fun b => b.toNat - 48
theorem vals_digs {l : List UInt8} (h : l.all isDig = true) : Digs (vals l) := by
  intro x hx
  simp only [vals, List.mem_map] at hx
  obtain ⟨b, hb, rfl⟩ := hx
  have := isDig_iff.1 (List.all_eq_true.1 h b hb)
  omega
/-- What stands behind the sign of an integer. -/
def intTail (l : List UInt8) : List UInt8 := if 1 < l.length ∧ l.head? = some 45 then l.drop 1 else l
/-- The canonical texts of integers. -/
def intB (l : List UInt8) : Bool := !((intTail l).length == 0) && decide ((intTail l).length ≤ 400) && !((intTail l).head? == some 48 && decide (1 < l.length)) && (intTail l).all isDig
/-- Without a minus sign. -/
def unsign (l : List UInt8) : List UInt8 := if l.head? = some 45 then l.drop 1 else l

def readP (l : List UInt8) : Option D :=
  let k := indexByte l 101
  if k < 0 then none else
  if intB (l.take k.toNat) = false then none else
  if 6 < (l.length : Int) - k then none else
  match atoiAll (l.drop (k.toNat + 1)) with
  | .ok e =>
    let x := norm (l.head? == some 45) (vals (unsign (l.take k.toNat))) e
    if limit x = 0 ∧ showB x = l then some x else none
  | _ => none

theorem digB_all {l : List Nat} (h : Digs l) : (digB l).all isDig = true := List.all_eq_true.2 fun _ hb => isDig_iff.2 (digB_mem h hb)
theorem digB_len (l : List Nat) : (digB l).length = l.length := by simp [digB]
theorem digB_head {l : List Nat} : (digB l).head? = l.head?.map fun x => UInt8.ofNat (48 + x) := by cases l <;> rfl
theorem digB_not45 {l : List Nat} (h : Digs l) : (digB l).head? ≠ some 45 := by
  intro e
  cases l with
  | nil => cases e
  | cons x l =>
    have := digB_toNat (h x (by simp))
    simp only [digB, List.map_cons, List.head?_cons, Option.some.injEq] at e
    rw [e] at this; simp at this; omega
theorem digB_not48 {l : List Nat} (h : Digs l) (h0 : ∀ u, l.head? = some u → u ≠ 0) : (digB l).head? ≠ some 48 := by
  intro e
  cases l with
  | nil => cases e
  | cons x l =>
    have h1 := digB_toNat (h x (by simp))
    have := h0 x rfl
    simp only [digB, List.map_cons, List.head?_cons, Option.some.injEq] at e
    rw [e] at h1; simp at h1; omega
/-- The coefficient of a canonical number: what its readers see. -/
theorem coef_reads {x : D} (h : Canon x) : intB (coefB x) = true ∧ (coefB x ≠ []) ∧ ((coefB x).head? == some 45) = x.neg ∧ (x.c = [] → vals (unsign (coefB x)) = [0]) ∧ (x.c ≠ [] → vals (unsign (coefB x)) = x.c) := by
  obtain ⟨⟨hd, h1, h2, _⟩, hl⟩ := h
  have hl := limit_ok.1 hl
  by_cases hc : x.c = []
  · have e : coefB x = [48] := by rw [coefB, if_pos hc]
    rw [e, (h1 hc).1]
    exact ⟨by decide, by simp, by decide, fun _ => by decide, fun h => absurd hc h⟩
  · have e : coefB x = sgnB x.neg ++ digB x.c := by rw [coefB, if_neg hc]
    have hne : digB x.c ≠ [] := by simp [digB, hc]
    have hlen : 0 < x.c.length := List.length_pos_iff.2 hc
    have hall := digB_all hd
    have h48 := digB_not48 hd h2
    have h45 := digB_not45 hd
    have hdl := digB_len x.c
    rw [e]
    cases hn : x.neg with
    | true =>
      have et : intTail (sgnB true ++ digB x.c) = digB x.c := by
        rw [intTail, if_pos ⟨by simp [sgnB]; omega, rfl⟩]; rfl
      have eu : unsign (sgnB true ++ digB x.c) = digB x.c := by rw [unsign, if_pos (show (sgnB true ++ digB x.c).head? = some 45 from rfl)]; rfl
      refine ⟨?_, by simp [sgnB], rfl, fun h => absurd h hc, fun _ => by rw [eu]; exact digB_val hd⟩
      rw [intB, et, hall]
      simp [hdl, h48]
      exact ⟨hc, by omega⟩
    | false =>
      have es : sgnB false ++ digB x.c = digB x.c := rfl
      rw [es]
      have et : intTail (digB x.c) = digB x.c := by rw [intTail, if_neg (by simp [h45])]
      have eu : unsign (digB x.c) = digB x.c := by rw [unsign, if_neg h45]
      refine ⟨?_, hne, by simpa using h45, fun h => absurd h hc, fun _ => by rw [eu]; exact digB_val hd⟩
      rw [intB, et, hall]
      simp [hdl, h48]
      exact ⟨hc, by omega⟩
theorem norm_canon {x : D} (h : Canon x) {v : List Nat} (h0 : x.c = [] → v = [0]) (h1 : x.c ≠ [] → v = x.c) : norm x.neg v x.e = x := by
  by_cases hc : x.c = []
  · rw [h0 hc, norm_zero]
    obtain ⟨a, b⟩ := h.1.2.1 hc
    cases x; simp_all
  · rw [h1 hc]; exact norm_self h.1
/-- The reader of the program reads just the canonical texts. -/
theorem readP_show {x : D} (h : Canon x) : readP (showB x) = some x := by
  obtain ⟨i1, i2, i3, i4, i5⟩ := coef_reads h
  have hl := limit_ok.1 h.2
  have hk : indexByte (showB x) 101 = ((coefB x).length : Int) := index_of fun b hb => coef_no_e h.1.1 hb
  have ht : (showB x).take (coefB x).length = coefB x := by rw [showB, List.take_left']; rfl
  have hdr : (showB x).drop ((coefB x).length + 1) = itoa x.e := by
    rw [showB, List.drop_append]; simp
  have hh : (showB x).head? = (coefB x).head? := by
    cases hc : coefB x with
    | nil => exact absurd hc i2
    | cons a b => rw [showB, hc]; rfl
  have hil := itoa_len hl.2.1 hl.2.2
  have hsl : (showB x).length = (coefB x).length + 1 + (itoa x.e).length := by simp [showB]; omega
  unfold readP
  simp only [hk, Int.toNat_natCast]
  rw [if_neg (by omega), ht, i1, if_neg (by decide), if_neg (by omega), hdr, atoi_itoa (by omega) (by omega)]
  simp only [hh, i3]
  rw [norm_canon h i4 i5, if_pos ⟨h.2, rfl⟩]
theorem intB_digs {l : List UInt8} (h : intB l = true) : Digs (vals (unsign l)) := by
  simp only [intB, Bool.and_eq_true] at h
  obtain ⟨⟨⟨h0, _⟩, _⟩, h⟩ := h
  refine vals_digs ?_
  rw [unsign]
  by_cases h45 : l.head? = some 45
  · rw [if_pos h45]
    by_cases hl : 1 < l.length
    · rw [intTail, if_pos ⟨hl, h45⟩] at h; exact h
    · cases l with
      | nil => cases h45
      | cons a l =>
        have : l = [] := by
          cases l with
          | nil => rfl
          | cons b l => simp at hl
        subst this; rfl
  · rw [if_neg h45]
    rw [intTail, if_neg (by simp [h45])] at h; exact h
theorem readP_some {l : List UInt8} {x : D} (h : readP l = some x) : Canon x ∧ showB x = l := by
  unfold readP at h
  simp only at h
  split at h
  · cases h
  · split at h
    · cases h
    · rename_i hi
      split at h
      · cases h
      · split at h
        · split at h
          · rename_i hx
            injection h with h
            subst h
            exact ⟨⟨norm_normal (intB_digs (by simpa using hi)), hx.1⟩, hx.2⟩
          · cases h
        · cases h
theorem readP_iff {l : List UInt8} {x : D} : readP l = some x ↔ Canon x ∧ showB x = l := ⟨readP_some, fun ⟨h1, h2⟩ => h2 ▸ readP_show h1⟩
theorem readP_none {l : List UInt8} : readP l = none ↔ ∀ x, Canon x → showB x ≠ l := by
  constructor
  · intro h x hx e
    rw [← e, readP_show hx] at h; cases h
  · intro h
    cases hr : readP l with
    | none => rfl
    | some x => exact absurd (readP_some hr).2 (h x (readP_some hr).1)
theorem show_inj {x y : D} (hx : Canon x) (hy : Canon y) (h : showB x = showB y) : x = y := by
  have := readP_show hx
  rw [h, readP_show hy] at this
  exact (Option.some.inj this).symm
end Go.Proofs.YtjapgpmoojfhnaaGreatDoor.Dc
