/- The reference's Valid and number: canonical integers. -/
import Derived.Test.YtjapgpmoojfhnaaGreatDoorWalkZM
namespace Go.Proofs.YtjapgpmoojfhnaaGreatDoor
open Go.RowKit Go.Lib

namespace Fl
def isD (b : UInt8) : Bool := decide (48 ≤ b.toNat) && decide (b.toNat ≤ 57)
def at1 (l : List UInt8) : Nat := if l.head? = some 45 then 1 else 0
/-- A canonical integer. -/
def vB (l : List UInt8) : Bool := !(l.length == at1 l) && !((l[at1 l]? == some 48) && decide (1 < l.length)) && (l.drop (at1 l)).all isD
def numV (l : List UInt8) : Nat := l.foldl (fun n b => 10 * n + (b.toNat - 48)) 0
theorem numV_snoc (l : List UInt8) (b : UInt8) : numV (l ++ [b]) = 10 * numV l + (b.toNat - 48) := by simp [numV]
theorem at1_le (l : List UInt8) : at1 l ≤ l.length := by
  unfold at1
  cases l with
  | nil => simp
  | cons c l => split <;> simp
/-- The value of digits, read back. -/
theorem numV_dec : ∀ (n : Nat) (t : List UInt8), t.length = n + 1 → (∀ b ∈ t, 48 ≤ b.toNat ∧ b.toNat ≤ 57) → (t.head? = some 48 → n = 0) → decDigits (numV t) = t ∧ (n ≠ 0 → numV t ≠ 0) ∧ numV t < 10 ^ (n + 1)
  | 0, t, hl, hd, _ => by
    match t, hl with
    | [b], _ =>
      obtain ⟨h1, h2⟩ := hd b (by simp)
      have e : numV [b] = b.toNat - 48 := by simp [numV]
      rw [e, decDigits_one (by omega)]
      refine ⟨?_, fun h => absurd rfl h, by omega⟩
      congr 1
      apply UInt8.toNat_inj.1
      rw [UInt8.toNat_ofNat']
      omega
  | n + 1, t, hl, hd, h0 => by
    obtain ⟨t', b, rfl⟩ : ∃ t' b, t = t' ++ [b] := ⟨t.dropLast, t.getLast (by intro h; rw [h] at hl; simp at hl), (List.dropLast_concat_getLast _).symm⟩
    have hl' : t'.length = n + 1 := by simpa using hl
    obtain ⟨h1, h2⟩ := hd b (by simp)
    have hh : t'.head? = (t' ++ [b]).head? := by
      cases t' with
      | nil => simp at hl'
      | cons c r => rfl
    obtain ⟨a1, a2, a3⟩ := numV_dec n t' hl' (fun x hx => hd x (by simp [hx])) (fun h => by rw [hh] at h; have := h0 h; omega)
    have hne : numV t' ≠ 0 := by
      by_cases hn : n = 0
      · subst hn
        match t', hl' with
        | [c], _ =>
          intro hz
          have hc := hd c (by simp)
          have e : numV [c] = c.toNat - 48 := by simp [numV]
          rw [e] at hz
          have hc48 : c = 48 := UInt8.toNat_inj.1 (by show c.toNat = 48; omega)
          have := h0 (by rw [hc48]; rfl)
          omega
      · exact a2 hn
    rw [numV_snoc]
    refine ⟨?_, fun _ => by omega, by rw [Nat.pow_succ]; omega⟩
    rw [decDigits, dif_neg (by omega), show (10 * numV t' + (b.toNat - 48)) / 10 = numV t' by omega, show (10 * numV t' + (b.toNat - 48)) % 10 = b.toNat - 48 by omega, a1]
    congr 2
    apply UInt8.toNat_inj.1
    rw [UInt8.toNat_ofNat']
    omega
/-- The number of a canonical integer. -/
def numI (l : List UInt8) : Int := if at1 l = 1 then -(numV (l.drop 1) : Int) else (numV l : Int)
theorem vB_digits {l : List UInt8} (h : vB l = true) : (l.drop (at1 l)).length ≠ 0 ∧ (∀ b ∈ l.drop (at1 l), 48 ≤ b.toNat ∧ b.toNat ≤ 57) ∧ ((l.drop (at1 l)).head? = some 48 → l.length ≤ 1) := by
  unfold vB at h
  simp only [Bool.and_eq_true, Bool.not_eq_true', List.all_eq_true] at h
  obtain ⟨⟨h1, h2⟩, h3⟩ := h
  rw [beq_eq_false_iff_ne] at h1
  have hle := at1_le l
  refine ⟨by rw [List.length_drop]; omega, fun b hb => ?_, fun hh => ?_⟩
  · have := h3 b hb
    simpa [isD] using this
  · rw [List.head?_drop] at hh
    rw [hh] at h2
    simp at h2
    omega
theorem vB_itoa {l : List UInt8} (h : vB l = true) : l = itoa (numI l) ∧ (l.length ≤ 18 → numI l < 1000000000000000000 ∧ -1000000000000000000 < numI l) := by
  obtain ⟨h1, h2, h3⟩ := vB_digits h
  obtain ⟨n, hn⟩ : ∃ n, (l.drop (at1 l)).length = n + 1 := ⟨(l.drop (at1 l)).length - 1, by omega⟩
  have hle := at1_le l
  have hlen : l.length = at1 l + (n + 1) := by rw [List.length_drop] at hn; omega
  obtain ⟨a1, a2, a3⟩ := numV_dec n _ hn h2 (fun hh => by have := h3 hh; omega)
  have hbd : l.length ≤ 18 → numV (l.drop (at1 l)) < 1000000000000000000 := fun h18 =>
    Nat.lt_of_lt_of_le a3 (Nat.le_trans (Nat.pow_le_pow_right (by decide) (show n + 1 ≤ 18 by omega)) (by decide))
  unfold numI
  by_cases hm : at1 l = 1
  · rw [if_pos hm]
    rw [hm] at a1 a2 a3 hn h3 hlen hbd
    have hl : l = 45 :: l.drop 1 := by
      cases l with
      | nil => simp at hn
      | cons c r =>
        unfold at1 at hm
        split at hm
        · rename_i hc
          simp at hc
          rw [hc]; rfl
        · cases hm
    have hpos : numV (l.drop 1) ≠ 0 := by
      by_cases hn0 : n = 0
      · intro hz
        rw [hz, decDigits_one (by decide)] at a1
        have := h3 (by rw [← a1]; rfl)
        omega
      · exact a2 hn0
    refine ⟨?_, fun h18 => by have := hbd h18; omega⟩
    unfold itoa
    rw [if_pos (by omega), show (-(numV (l.drop 1) : Int)).natAbs = numV (l.drop 1) by omega, a1]
    exact hl
  · have h0 : at1 l = 0 := by
      unfold at1 at hm ⊢
      split
      · rename_i hc
        rw [if_pos hc] at hm
        exact absurd rfl hm
      · rfl
    rw [if_neg hm]
    rw [h0, List.drop_zero] at a1
    rw [h0, List.drop_zero] at hbd
    refine ⟨?_, fun h18 => by have := hbd h18; omega⟩
    unfold itoa
    rw [if_neg (by omega), Int.toNat_natCast, a1]
theorem dec_head (u : Nat) : (decDigits u).head? = some 48 → (decDigits u).length = 1 := by
  intro h
  by_cases h0 : u = 0
  · subst h0; rw [decDigits_one (by decide)]; rfl
  · obtain ⟨b1, _, b3, ⟨t, b4, b5⟩, b6⟩ := digL_facts h0
    rw [b6, List.head?_map, List.head?_reverse, List.getLast?_eq_getElem?, b4] at h
    have ht : t < 10 := b3 t (List.mem_of_getElem? b4)
    have h' : UInt8.ofNat (48 + t) = 48 := Option.some.inj h
    have := congrArg UInt8.toNat h'
    rw [Dc.dig_toNat ht] at this
    have e : (48 : UInt8).toNat = 48 := rfl
    omega
theorem itoa_vB (v : Int) : vB (itoa v) = true := by
  have key : ∀ u, (decDigits u).length ≠ 0 ∧ (decDigits u).all isD = true := fun u => by
    refine ⟨fun h => Dc.dec_ne u (List.eq_nil_of_length_eq_zero h), List.all_eq_true.2 fun b hb => ?_⟩
    have := Dc.dec_mem u b hb
    simp [isD, this.1, this.2]
  have hno : ∀ u, (decDigits u).head? ≠ some 45 := fun u h => by
    cases hd : decDigits u with
    | nil => exact Dc.dec_ne u hd
    | cons c l =>
      rw [hd] at h
      have := Dc.dec_mem u c (by rw [hd]; simp)
      simp at h
      rw [h] at this
      exact absurd this.1 (by decide)
  unfold itoa
  by_cases h : v < 0
  · rw [if_pos h]
    obtain ⟨k1, k2⟩ := key v.natAbs
    have hh := dec_head v.natAbs
    have hz : decDigits v.natAbs ≠ [48] := fun he => by
      obtain ⟨_, _, b3, ⟨t, b4, b5⟩, b6⟩ := digL_facts (u := v.natAbs) (by omega)
      rw [b6] at he
      have hl : (digL v.natAbs).length = 1 := by have := congrArg List.length he; simpa using this
      match hd : digL v.natAbs, hl with
      | [x], _ =>
        rw [hd] at he b4 b3
        simp at b4
        subst b4
        have he' : [UInt8.ofNat (48 + x)] = [48] := he
        have := congrArg UInt8.toNat (List.cons.inj he').1
        rw [Dc.dig_toNat (b3 x (by simp))] at this
        have e : (48 : UInt8).toNat = 48 := rfl
        omega
    unfold vB
    have e1 : at1 (45 :: decDigits v.natAbs) = 1 := rfl
    rw [e1]
    simp only [List.drop_succ_cons, List.drop_zero, k2, Bool.and_true, List.length_cons, List.getElem?_cons_succ]
    cases hd : decDigits v.natAbs with
    | nil => exact absurd hd (Dc.dec_ne _)
    | cons c l =>
      have hc : c ≠ 48 := fun hc => by
        rw [hd, hc] at hh
        have := hh rfl
        simp at this
        rw [hd, hc, this] at hz
        exact hz rfl
      simp [hc]
  · rw [if_neg h]
    obtain ⟨k1, k2⟩ := key v.toNat
    have hh := dec_head v.toNat
    unfold vB
    have e1 : at1 (decDigits v.toNat) = 0 := if_neg (hno _)
    rw [e1]
    simp only [List.drop_zero, k2, Bool.and_true]
    cases hd : decDigits v.toNat with
    | nil => exact absurd hd (Dc.dec_ne _)
    | cons c l =>
      rw [hd] at hh
      simp at hh ⊢
      by_cases hc : c = 48
      · exact .inr (hh hc)
      · exact .inl hc
end Fl
end Go.Proofs.YtjapgpmoojfhnaaGreatDoor
