/- One number at two exponents. The digits kept against the whole number. The nearest number of every decimal: it is there; numbers far away; the digits kept and their neighbour. The reference's way to the nearest number, plainly: a quotient, its remainder, and the rounding. Words for memory: a slice value that reads as a list of cells; what a call hands back. No function of .. -/
import Derived.Test.YtjapgpmoojfhnaaGreatDoorB04
import Derived.Test.YtjapgpmoojfhnaaGreatDoorB07
import Derived.Test.YtjapgpmoojfhnaaGreatDoorB08
import Derived.Test.YtjapgpmoojfhnaaGreatDoorProg
import Derived.Below
import Derived.Laws.OwnMore
import Derived.Deep.AppendLies
import Derived.Deep.Draws
import Derived.OwnWalk
import Derived.Lib.OthersKept
import Derived.OneCell
import Derived.WalkKit
import Derived.WalkLawsBesides
import Derived.Lib.Hide
import Derived.Deep.LoopGhost
import Derived.Deep.DeepFit
import Derived.Laws.DeepStrings4
import Derived.WalkSpells
import Derived.Deep.RegionHeld3
import Derived.Deep.DeepCutAuto
import Derived.Deep.CutBlock
import Derived.Deep.QuietTactic
import Derived.BigQuiet
import Derived.IntWalk
import Derived.Laws.IdiomStrings
import Derived.Laws.CopyOwn
import Derived.Laws.BytesString
import Derived.Laws.MakeOwn
import Derived.Laws.BytesArg
import Derived.Maps.AppendAt
import Derived.RegionTactic
set_option maxHeartbeats 16000000
set_option maxRecDepth 100000
set_option linter.unusedSimpArgs false
set_option linter.unusedVariables false
namespace Go.Proofs.YtjapgpmoojfhnaaGreatDoor.Fl
open Ieee
theorem v_cross (a j : Nat) (E : Int) : vN (a * 10 ^ j) E * vD (E + j) = vN a (E + j) * vD E := by
 unfold vN vD
 obtain ⟨z, hz⟩ : ∃ z : Nat, (2 : Nat) ^ 1074 = z := ⟨_, rfl⟩
 rw [hz]
 by_cases h : 0 ≤ E
 · rw [if_pos h, if_pos h, if_pos (show 0 ≤ E + (j : Int) by omega), if_pos (show 0 ≤ E + (j : Int) by omega), show (E + (j : Int)).toNat = E.toNat + j by omega, Nat.pow_add]
   simp only [Nat.mul_assoc, Nat.mul_comm, Nat.mul_left_comm]
 · rw [if_neg h, if_neg h]
   by_cases h2 : 0 ≤ E + (j : Int)
   · rw [if_pos h2, if_pos h2]
     obtain ⟨m, hm⟩ : ∃ m, (-E).toNat = m := ⟨_, rfl⟩
     rw [hm, show (E + (j : Int)).toNat = j - m by omega, Nat.mul_one]
     have : 10 ^ j = 10 ^ (j - m) * 10 ^ m := by rw [← Nat.pow_add, show j - m + m = j by omega]
     rw [this]
     simp only [Nat.mul_comm, Nat.mul_left_comm]
   · rw [if_neg h2, if_neg h2]
     obtain ⟨m, hm⟩ : ∃ m, (-E).toNat = m := ⟨_, rfl⟩
     rw [hm, show (-(E + (j : Int))).toNat = m - j by omega]
     have : 10 ^ m = 10 ^ (m - j) * 10 ^ j := by rw [← Nat.pow_add, show m - j + j = m by omega]
     rw [this]
     simp only [Nat.mul_assoc, Nat.mul_comm, Nat.mul_left_comm]
theorem vN_lin (a b : Nat) (E : Int) : vN (a + b) E = vN a E + vN b E := by
 unfold vN
 split <;> simp only [Nat.add_mul]
end Go.Proofs.YtjapgpmoojfhnaaGreatDoor.Fl
namespace Go.Proofs.YtjapgpmoojfhnaaGreatDoor.Fl
open Go Go.Lib
open Go.Proofs.YtjapgpmoojfhnaaGreatDoor.Dc (Digs digB sgnB dec_ne)
theorem mant_bounds {l : List Nat} (h : Digs l) (hl : 19 ≤ l.length) : mantN l l.length * 10 ^ (l.length - 19) ≤ num l ∧ num l < (mantN l l.length + 1) * 10 ^ (l.length - 19) := by
 have e : num l = num (l.take 19) * 10 ^ (l.drop 19).length + num (l.drop 19) := by
  rw [← num_append, List.take_append_drop]
 have hd : num (l.drop 19) < 10 ^ (l.drop 19).length := num_lt (fun x hx => h x (List.mem_of_mem_drop hx))
 rw [List.length_drop] at e hd
 have em : mantN l l.length = num (l.take 19) := by unfold mantN; rw [Nat.min_eq_right hl]
 rw [em, e, Nat.add_mul, Nat.one_mul]
 omega
theorem mant_short {l : List Nat} (hl : l.length ≤ 19) : mantN l l.length = num l := by
 unfold mantN
 rw [Nat.min_eq_left hl, List.take_length]
theorem num_zeros : ∀ {m : List Nat}, m.any (· != 0) = false → num m = 0
 | [], _ => rfl
 | x :: m, h => by
   rw [List.any_cons, Bool.or_eq_false_iff] at h
   have hx : x = 0 := by simpa using h.1
   rw [num_cons, hx, num_zeros h.2, Nat.zero_mul]
theorem mant_exact {l : List Nat} (hl : 19 ≤ l.length) (ht : truncN l l.length = false) : num l = mantN l l.length * 10 ^ (l.length - 19) := by
 have e : num l = num (l.take 19) * 10 ^ (l.drop 19).length + num (l.drop 19) := by
  rw [← num_append, List.take_append_drop]
 unfold truncN at ht
 rw [List.take_length] at ht
 rw [e, num_zeros ht, List.length_drop, Nat.add_zero]
 unfold mantN
 rw [Nat.min_eq_right hl]
end Go.Proofs.YtjapgpmoojfhnaaGreatDoor.Fl
namespace Go.Proofs.YtjapgpmoojfhnaaGreatDoor.Fl
open Ieee
open Go.Proofs.YtjapgpmoojfhnaaGreatDoor.Dc (Digs)
def LowN (n d r : Nat) : Prop := r = 0 ∨ (val double (r - 1) + val double r) * d < 2 * n ∨ ((val double (r - 1) + val double r) * d = 2 * n ∧ r % 2 = 0)
theorem low_top (n d : Nat) : ∀ k : Nat, ∃ r, r ≤ k ∧ LowN n d r ∧ ∀ s, r < s → s ≤ k → ¬ LowN n d s := by
 intro k
 induction k with
 | zero => exact ⟨0, Nat.le_refl _, .inl rfl, fun s h1 h2 => by omega⟩
 | succ k ih =>
   by_cases h : LowN n d (k + 1)
   · exact ⟨k + 1, Nat.le_refl _, h, fun s h1 h2 => by omega⟩
   · obtain ⟨r, h1, h2, h3⟩ := ih
     refine ⟨r, by omega, h2, fun s a b => ?_⟩
     rcases Nat.lt_or_ge s (k + 1) with c | c
     · exact h3 s a (by omega)
     · obtain rfl : s = k + 1 := by omega
       exact h
theorem near_exists (n d : Nat) : ∃ r, Near n d r := by
 obtain ⟨r, h1, h2, h3⟩ := low_top n d 9218868437227405312
 refine ⟨r, h1, h2, ?_⟩
 by_cases hr : r = 9218868437227405312
 · exact .inl hr
 · right
   have h4 := h3 (r + 1) (by omega) (by omega)
   unfold LowN at h4
   rw [Nat.add_sub_cancel] at h4
   generalize (val double r + val double (r + 1)) * d = x at *
   rcases Nat.lt_trichotomy (2 * n) x with h5 | h5 | h5
   · exact .inl h5
   · refine .inr ⟨h5, ?_⟩
     rcases Nat.mod_two_eq_zero_or_one r with h6 | h6
     · exact h6
     · exact absurd (.inr (.inr ⟨h5.symm, by omega⟩)) h4
   · exact absurd (.inr (.inl h5)) h4
def qY : Nat := 324
theorem q_zero2 : 2 ^ qL ≤ 10 ^ qY := of_decide_eq_true (by kernel_rfl)
section
variable {M : Nat} {p : Int}
theorem near_nought2 (hp : -3000 ≤ p) (h : M * sc p < sc (-324)) : Near (vN M p) (vD p) 0 :=
 near_zero_g (k := qK) (b := qL) (a := qY) rfl rfl q_zero2 (by unfold qY; omega) hp (by rw [show -((qY : Nat) : Int) = -324 by unfold qY; rfl]; exact h)
theorem vN_mono {a b : Nat} (h : a ≤ b) (E : Int) : vN a E ≤ vN b E := by
 obtain ⟨c, rfl⟩ : ∃ c, b = a + c := ⟨b - a, by omega⟩
 rw [vN_lin]
 exact Nat.le_add_right _ _
theorem mant_all {l : List Nat} {E : Int} {r : Nat} (ht : truncN l l.length = false) (hp : l.length + E - (min l.length 19 : Nat) = p) : Near (vN (mantN l l.length) p) (vD p) r ↔ Near (vN (num l) E) (vD E) r := by
 rcases Nat.lt_or_ge l.length 19 with h | h
 · rw [mant_short (by omega), show p = E by omega]
 · have hpp : p = E + (l.length - 19 : Nat) := by omega
   have e := v_cross (mantN l l.length) (l.length - 19) E
   rw [← mant_exact h ht, ← hpp] at e
   exact ⟨near_eq (vD_pos _) (vD_pos _) e.symm, near_eq (vD_pos _) (vD_pos _) e⟩
theorem mant_between {l : List Nat} {E : Int} {r r0 r1 : Nat} (hd : Digs l) (ht : truncN l l.length = true) (hp : l.length + E - (min l.length 19 : Nat) = p) (h0 : Near (vN (mantN l l.length) p) (vD p) r0) (h1 : Near (vN (mantN l l.length + 1) p) (vD p) r1) (h : Near (vN (num l) E) (vD E) r) : r0 ≤ r ∧ r ≤ r1 := by
 have hl : 19 ≤ l.length := Nat.le_of_not_lt fun h => by
  rw [truncN_low (by omega)] at ht
  cases ht
 have hpp : p = E + (l.length - 19 : Nat) := by omega
 obtain ⟨b1, b2⟩ := mant_bounds hd hl
 have e := v_cross (mantN l l.length) (l.length - 19) E
 have e' := v_cross (mantN l l.length + 1) (l.length - 19) E
 rw [← hpp] at e e'
 refine ⟨near_mono (vD_pos _) (vD_pos _) h0 h ?_, near_mono (vD_pos _) (vD_pos _) h h1 ?_⟩
 · rw [← e]
   exact Nat.mul_le_mul_right _ (vN_mono b1 E)
 · rw [← e']
   exact Nat.mul_le_mul_right _ (vN_mono (Nat.le_of_lt b2) E)
theorem far_big {l : List Nat} {E : Int} (hd : Digs l) (hne : l ≠ []) (hh : ∀ x, l.head? = some x → x ≠ 0) (hE : -2000 ≤ E) (hp : l.length + E - (min l.length 19 : Nat) = p) (h : 310 < p) : Near (vN (num l) E) (vD E) 9218868437227405312 := by
 have hpos := List.length_pos_iff.2 hne
 have e0 : (l.length : Int) + E - l.length = E := by omega
 obtain ⟨z1, _⟩ := start_size (dp := (l.length : Int) + E) (isNum_text (rest := []) hd) (num_top hne hh) (by omega) hpos
 rw [e0] at z1
 exact near_far (by omega) (Nat.le_trans ((sc_le (by omega) (by omega)).2 (by omega)) z1)
theorem far_small {l : List Nat} {E : Int} (hd : Digs l) (hne : l ≠ []) (hh : ∀ x, l.head? = some x → x ≠ 0) (hE : -2000 ≤ E) (hp : l.length + E - (min l.length 19 : Nat) = p) (h : p < -345) : Near (vN (num l) E) (vD E) 0 := by
 have hpos := List.length_pos_iff.2 hne
 have e0 : (l.length : Int) + E - l.length = E := by omega
 obtain ⟨_, z2⟩ := start_size (dp := (l.length : Int) + E) (isNum_text (rest := []) hd) (num_top hne hh) (by omega) hpos
 rw [e0] at z2
 exact near_nought2 (by omega) (Nat.lt_of_lt_of_le z2 ((sc_le (by omega) (by omega)).2 (by omega)))
end
end Go.Proofs.YtjapgpmoojfhnaaGreatDoor.Fl
namespace Go.Proofs.YtjapgpmoojfhnaaGreatDoor.Fl
open Ieee
def rnN (c : Nat) (E : Int) : Nat := if 0 < E then c * 10 ^ E.toNat else c
def rnD (E : Int) : Nat := if 0 < E then 1 else 10 ^ (-E).toNat
def shN (u : Nat) (k : Int) : Nat := if 0 < k then u else u * 2 ^ (-k).toNat
def shD (v : Nat) (k : Int) : Nat := if 0 < k then v * 2 ^ k.toNat else v
def rndQ (a b : Nat) : Nat := if b < 2 * (a % b) ∨ (2 * (a % b) = b ∧ a / b % 2 = 1) then a / b + 1 else a / b
theorem rnD_pos (E : Int) : 0 < rnD E := by
 unfold rnD
 split
 · exact Nat.one_pos
 · exact Nat.pow_pos (by decide)
theorem shD_pos {v : Nat} (h : 0 < v) (k : Int) : 0 < shD v k := by
 unfold shD
 split
 · exact Nat.mul_pos h (Nat.pow_pos (by decide))
 · exact h
theorem vD_rn (E : Int) : vD E = rnD E := by
 unfold vD rnD
 by_cases h0 : 0 < E
 · rw [if_pos h0, if_pos (by omega)]
 · rw [if_neg h0]
   by_cases h1 : 0 ≤ E
   · rw [if_pos h1, show (-E).toNat = 0 by omega, Nat.pow_zero]
   · rw [if_neg h1]
theorem vN_rn {c : Nat} {E : Int} {z : Nat} (hz : z = 1074) : vN c E = rnN c E * 2 ^ z := by
 subst hz
 unfold vN rnN
 by_cases h0 : 0 < E
 · rw [if_pos h0, if_pos (Int.le_of_lt h0)]
 · rw [if_neg h0]
   by_cases h1 : 0 ≤ E
   · rw [if_pos h1, show E.toNat = 0 by omega, Nat.pow_zero, Nat.mul_one]
   · rw [if_neg h1]
theorem sh_cross {u v K z : Nat} (k : Int) (hk : k = (K : Int) - z) : shN u k * (2 ^ K * v) = u * 2 ^ z * shD v k := by
 unfold shN shD
 by_cases h : 0 < k
 · rw [if_pos h, if_pos h]
   have e : 2 ^ K = 2 ^ z * 2 ^ k.toNat := by rw [← Nat.pow_add]; congr 1; omega
   rw [e]
   simp only [Nat.mul_assoc, Nat.mul_left_comm, Nat.mul_comm]
 · rw [if_neg h, if_neg h]
   have e : 2 ^ z = 2 ^ (-k).toNat * 2 ^ K := by rw [← Nat.pow_add]; congr 1; omega
   rw [e]
   simp only [Nat.mul_assoc]
theorem sh_half (u : Nat) {v : Nat} (_ : 0 < v) (k : Int) : shN u (k + 1) / shD v (k + 1) = shN u k / shD v k / 2 := by
 unfold shN shD
 by_cases h : 0 < k
 · rw [if_pos h, if_pos h, if_pos (by omega), if_pos (by omega), Nat.div_div_eq_div_mul]
   congr 1
   rw [show (k + 1).toNat = k.toNat + 1 by omega, Nat.pow_succ, Nat.mul_assoc]
 · rw [if_neg h, if_neg h]
   by_cases h0 : 0 < k + 1
   · rw [if_pos h0, if_pos h0, show (-k).toNat = 0 by omega, show (k + 1).toNat = 1 by omega, Nat.pow_zero, Nat.mul_one, Nat.div_div_eq_div_mul]
   · rw [if_neg h0, if_neg h0, show (-k).toNat = (-(k + 1)).toNat + 1 by omega, Nat.pow_succ, ← Nat.mul_assoc, Nat.div_div_eq_div_mul, Nat.mul_div_mul_right _ _ (by decide)]
theorem near_ref {c K z : Nat} {E k : Int} (hz : z = 1074) (hk : k = (K : Int) - z) (hq : shN (rnN c E) k / shD (rnD E) k < 9007199254740992) (hlo : K = 0 ∨ 4503599627370496 ≤ shN (rnN c E) k / shD (rnD E) k) :
 Near (vN c E) (vD E) (min (K * 4503599627370496 + rndQ (shN (rnN c E) k) (shD (rnD E) k)) 9218868437227405312) := by
 have hx := sh_cross (u := rnN c E) (v := rnD E) k hk
 rw [← vN_rn hz, ← vD_rn] at hx
 have hb := shD_pos (rnD_pos E) k
 rw [← vD_rn] at hb hq hlo ⊢
 have hd := vD_pos E
 generalize shN (rnN c E) k = a at *
 generalize shD (vD E) k = b at *
 have hP : 0 < 2 ^ K * vD E := Nat.mul_pos (Nat.pow_pos (by decide)) hd
 have hdm := Nat.div_add_mod a b
 have hr := Nat.mod_lt a hb
 unfold rndQ
 generalize a / b = q at *
 generalize a % b = r at *
 have ha : a = q * b + r := by rw [← hdm, Nat.mul_comm]
 have e1 : ∀ s : Nat, s * 2 ^ K * vD E * b = s * b * (2 ^ K * vD E) := fun s => by simp only [Nat.mul_assoc, Nat.mul_comm]
 have le_ : ∀ s t : Nat, s * a ≤ t * b → s * vN c E ≤ t * 2 ^ K * vD E := fun s t h => by
  refine Nat.le_of_mul_le_mul_right ?_ hb
  rw [e1, Nat.mul_assoc, ← hx, ← Nat.mul_assoc]
  exact Nat.mul_le_mul_right _ h
 have ge_ : ∀ s t : Nat, t * b ≤ s * a → t * 2 ^ K * vD E ≤ s * vN c E := fun s t h => by
  refine Nat.le_of_mul_le_mul_right ?_ hb
  rw [e1, Nat.mul_assoc s, ← hx, ← Nat.mul_assoc s]
  exact Nat.mul_le_mul_right _ h
 have lt_ : ∀ s t : Nat, s * a < t * b → s * vN c E < t * 2 ^ K * vD E := fun s t h => by
  refine Nat.lt_of_mul_lt_mul_right (a := b) ?_
  rw [e1, Nat.mul_assoc, ← hx, ← Nat.mul_assoc]
  exact Nat.mul_lt_mul_of_pos_right h hP
 have gt_ : ∀ s t : Nat, t * b < s * a → t * 2 ^ K * vD E < s * vN c E := fun s t h => by
  refine Nat.lt_of_mul_lt_mul_right (a := b) ?_
  rw [e1, Nat.mul_assoc s, ← hx, ← Nat.mul_assoc s]
  exact Nat.mul_lt_mul_of_pos_right h hP
 have f1 : (q + 1) * b = q * b + b := by rw [Nat.add_mul, Nat.one_mul]
 have f2 : (2 * q + 1) * b = 2 * (q * b) + b := by rw [Nat.add_mul, Nat.one_mul, Nat.mul_assoc]
 refine near_of_rnd hd hlo hq ?_ ?_ ?_
 · have := ge_ 1 q (by omega)
   rwa [Nat.one_mul] at this
 · have := lt_ 1 (q + 1) (by omega)
   rwa [Nat.one_mul] at this
 · rcases Nat.lt_trichotomy (2 * r) b with h | h | h
   · rw [if_neg (by omega)]
     exact .inl ⟨rfl, .inl (lt_ 2 (2 * q + 1) (by omega))⟩
   · have e2 : 2 * vN c E = (2 * q + 1) * 2 ^ K * vD E := Nat.le_antisymm (le_ 2 (2 * q + 1) (by omega)) (ge_ 2 (2 * q + 1) (by omega))
     rcases Nat.mod_two_eq_zero_or_one q with h2 | h2
     · rw [if_neg (by omega)]
       exact .inl ⟨rfl, .inr ⟨e2, h2⟩⟩
     · rw [if_pos (.inr ⟨h, h2⟩)]
       exact .inr ⟨rfl, .inr ⟨e2, h2⟩⟩
   · rw [if_pos (.inl h)]
     exact .inr ⟨rfl, .inl (gt_ 2 (2 * q + 1) (by omega))⟩
end Go.Proofs.YtjapgpmoojfhnaaGreatDoor.Fl
namespace Go.Proofs.YtjapgpmoojfhnaaGreatDoor
open Go.RowKit
theorem block_of_add (a : Addr) (n : Nat) : (a.add n).block = a.block := by unfold Addr.add; split <;> rfl
def Reads (w : World) (B : Nat) (A : Option Addr) (n : Nat) (xs : List Value) : Prop :=
 xs.length = n ∧ (0 < n → ∃ b off, A = some ⟨b, off, none⟩ ∧ b < B ∧ ∀ j u, xs[j]? = some u → w.cell? ⟨b, off + j, none⟩ = some u)
section
variable {w w' : World} {B B' n : Nat} {A : Option Addr} {xs : List Value}
theorem Reads.none_ : Reads w B A 0 [] := ⟨rfl, fun h => absurd h (by omega)⟩
theorem Reads.at_ {k : Nat} (h : Reads w B A n xs) (hk : k < n) : ∃ b off u, A = some ⟨b, off, none⟩ ∧ b < B ∧ xs[k]? = some u ∧ w.cell? ⟨b, off + k, none⟩ = some u := by
 obtain ⟨b, off, e, hb, hc⟩ := h.2 (by omega)
 have hl : k < xs.length := by have := h.1; omega
 exact ⟨b, off, xs[k], e, hb, List.getElem?_eq_getElem hl, hc k _ (List.getElem?_eq_getElem hl)⟩
theorem Reads.keep (h : Reads w B A n xs) (hk : ∀ p : Addr, p.block < B → w'.cell? p = w.cell? p) : Reads w' B A n xs :=
 ⟨h.1, fun hn => by
   obtain ⟨b, off, e, hb, hc⟩ := h.2 hn
   exact ⟨b, off, e, hb, fun j u hu => (hk ⟨b, off + j, none⟩ hb).trans (hc j u hu)⟩⟩
theorem Reads.more (h : Reads w B A n xs) (hB : B ≤ B') : Reads w B' A n xs :=
 ⟨h.1, fun hn => by
   obtain ⟨b, off, e, hb, hc⟩ := h.2 hn
   exact ⟨b, off, e, by omega, hc⟩⟩
theorem Reads.below (h : Reads w B A n xs) (hb : Below B w w') : Reads w' B A n xs := h.keep fun _ hp => hb.cell hp
theorem Reads.on (h : Reads w w.heap.size A n xs) (hb : Below w.heap.size w w') : Reads w' w'.heap.size A n xs := (h.below hb).more hb.size
theorem Reads.drew (h : Reads w B A n xs) : Reads w.drew B A n xs := h
theorem Reads.alloc (h : Reads w B A n xs) (hB : B ≤ w.heap.size) (o : Obj) : Reads (w.alloc o) B A n xs := h.keep fun p hp => World.cell?_alloc_lt w o p (by omega)
theorem Reads.of_own {base : Nat} {e : TypeId} {c : Nat} (h : w.ownsRow base e 1 (.slice A n c) n xs) : Reads w w.heap.size A n xs := by
 refine ⟨by simpa using h.1, fun hn => ?_⟩
 obtain ⟨g, cap, hv, _, hlt⟩ := h.form hn
 have hA : A = some ⟨g, 0, none⟩ := by injection hv
 subst hA
 refine ⟨g, 0, rfl, hlt, fun j u hu => ?_⟩
 have := h.cells (g := g) rfl j u hu
 simpa [Addr.add] using (by
  rcases Nat.eq_zero_or_pos j with hj | hj
  · subst hj; simpa [Addr.add] using this
  · simpa [Addr.add, Nat.ne_of_gt hj] using this : w.cell? ⟨g, j, none⟩ = some u)
end
theorem own_form {w : World} {base : Nat} {e : TypeId} {v : Value} {n : Nat} {xs : List Value} (h : w.ownsRow base e 1 v n xs) : ∃ A c, v = .slice A n c := by
 rcases h.2 with ⟨rfl, h2⟩ | ⟨g, cap, cur, rfl, _⟩
 · subst h2
   exact ⟨none, 0, rfl⟩
 · exact ⟨_, _, rfl⟩
theorem own_below {w w' : World} {base : Nat} {e : TypeId} {size : Nat} {v : Value} {n : Nat} {xs : List Value} (h : w.ownsRow base e size v n xs) (hb : Below w.heap.size w w') : w'.ownsRow base e size v n xs := by
 have hlt := h.lt
 obtain ⟨h1, h2⟩ := h
 refine ⟨h1, ?_⟩
 rcases h2 with h2 | ⟨g, cap, cur, rfl, b, c, d⟩
 · exact .inl h2
 · exact .inr ⟨g, cap, cur, rfl, b, by rw [hb.block g (hlt g rfl).2]; exact c, d⟩
theorem at_block {w : World} {g : Nat} {cs : Array Value} {t : TypeId} {fr : Nat × Nat} (h : w.heap[g]? = some (.cells cs t fr)) (i : Nat) (v : Value) (hv : cs[i]? = some v) : w.cell? ⟨g, i, none⟩ = some v := by
 simp only [World.cell?, h]; simpa using hv
theorem free_block {w : World} {g : Nat} {cs : Array Value} {t : TypeId} (h : w.heap[g]? = some (.cells cs t (0, 0))) (i : Nat) : w.frozen? ⟨g, i, none⟩ = false := by
 simp [World.frozen?, h]
theorem block_set {w : World} {g : Nat} {cs : Array Value} {t : TypeId} {fr : Nat × Nat} (h : w.heap[g]? = some (.cells cs t fr)) (i : Nat) (v : Value) : (w.setCell ⟨g, i, none⟩ v).heap[g]? = some (.cells (cs.setIfInBounds i v) t fr) := by
 have hlt := lt_of_block h
 have h' : w.heap[g] = .cells cs t fr := by simpa [Array.getElem?_eq_getElem hlt] using h
 show (w.heap.modify g _)[g]? = _
 rw [Array.getElem?_eq_getElem (by simpa using hlt), Array.getElem_modify_self, h']
 rfl
def i64s (l : List Nat) : List Value := l.map fun (x : Nat) => Value.int .i64 (x : Int)
def u8s (l : List Nat) : List Value := l.map fun (x : Nat) => Value.int .u8 (x : Int)
theorem i64_at {l : List Nat} {k : Nat} {u : Value} (h : (i64s l)[k]? = some u) : ∃ r : Nat, l[k]? = some r ∧ u = .int .i64 (r : Int) := by
 simp only [i64s, List.getElem?_map, Option.map_eq_some_iff] at h
 obtain ⟨s, h1, rfl⟩ := h
 exact ⟨s, h1, rfl⟩
theorem u8_at {l : List Nat} {k : Nat} {u : Value} (h : (u8s l)[k]? = some u) : ∃ r : Nat, l[k]? = some r ∧ u = .int .u8 (r : Int) := by
 simp only [u8s, List.getElem?_map, Option.map_eq_some_iff] at h
 obtain ⟨s, h1, rfl⟩ := h
 exact ⟨s, h1, rfl⟩
theorem u8s_len (l : List Nat) : (u8s l).length = l.length := by simp [u8s]
theorem i64s_len (l : List Nat) : (i64s l).length = l.length := by simp [i64s]
theorem u8s_get {l : List Nat} {k x : Nat} (h : l[k]? = some x) : (u8s l)[k]? = some (.int .u8 (x : Int)) := by simp [u8s, h]
theorem i64s_get {l : List Nat} {k x : Nat} (h : l[k]? = some x) : (i64s l)[k]? = some (.int .i64 (x : Int)) := by simp [i64s, h]
theorem Reads.drop {w : World} {B n : Nat} {A : Option Addr} {xs : List Value} (h : Reads w B A n xs) (k : Nat) (hk : k ≤ n) (b off : Nat) (hA : A = some ⟨b, off, none⟩) : Reads w B (some ⟨b, off + k, none⟩) (n - k) (xs.drop k) := by
 refine ⟨by rw [List.length_drop, h.1], fun hn => ?_⟩
 obtain ⟨b', off', e, hb, hc⟩ := h.2 (by omega)
 rw [hA] at e
 cases e
 refine ⟨b, off + k, rfl, hb, fun j u hu => ?_⟩
 rw [List.getElem?_drop] at hu
 rw [Nat.add_assoc]
 exact hc _ _ hu
theorem Reads.take {w : World} {B n : Nat} {A : Option Addr} {xs : List Value} (h : Reads w B A n xs) (k : Nat) (hk : k ≤ n) : Reads w B A k (xs.take k) := by
 refine ⟨by rw [List.length_take, h.1]; omega, fun hn => ?_⟩
 obtain ⟨b, off, e, hb, hc⟩ := h.2 (by omega)
 refine ⟨b, off, e, hb, fun j u hu => ?_⟩
 rw [List.getElem?_take] at hu
 split at hu
 · exact hc _ _ hu
 · cases hu
theorem Reads.of_block {w : World} {g : Nat} {cs : List Value} {t : TypeId} {fr : Nat × Nat} (h : w.heap[g]? = some (.cells cs.toArray t fr)) : Reads w w.heap.size (some ⟨g, 0, none⟩) cs.length cs :=
 ⟨rfl, fun _ => ⟨g, 0, rfl, lt_of_block h, fun j u hu => by
   have := at_block h j u (by simpa using hu)
   simpa using this⟩⟩
theorem size5 : (Tryz.prog.info? 5).map (·.size) = some 1 := by kernel_rfl
theorem info5 : (Tryz.prog.info? 5).map (fun i => (i.zero, i.size, i.bytes)) = some (some (.int .u8 0), 1, 1) := by kernel_rfl
theorem info3 : (Tryz.prog.info? 3).map (fun i => (i.zero, i.size, i.bytes)) = some (some (.int .i64 0), 1, 8) := by kernel_rfl
theorem info_parts {P : Program} {t : TypeId} {z : Value} {sz by_ : Nat} (h : (P.info? t).map (fun i => (i.zero, i.size, i.bytes)) = some (some z, sz, by_)) : ∃ i, P.info? t = some i ∧ i.zero = some z ∧ i.size = sz ∧ i.bytes = by_ := by
 cases hi : P.info? t with
 | none => rw [hi] at h; cases h
 | some i => rw [hi] at h; simp at h; exact ⟨i, rfl, h.1, h.2.1, h.2.2⟩
theorem made_is (z : Value) (hz : z.cells = #[z]) (n : Nat) : madeCells z.cells n = (List.replicate n z).toArray := by
 rw [hz]
 apply Array.ext'
 simp only [madeCells, Array.toList_map, Array.toList_range]
 rw [List.eq_replicate_iff]
 refine ⟨by simp, fun b hb => ?_⟩
 simp only [List.mem_map] at hb
 obtain ⟨a, _, rfl⟩ := hb
 simp [Nat.mod_one]
theorem make_bytes (n : Nat) (h : n ≤ 1099511627776) (W : World) : (Instr.makeSlice 31 (.int .i64 (n : Int)) (.int .i64 (n : Int))).run Tryz.prog W =
 .ok (.slice (some ⟨W.heap.size, 0, none⟩) n n) (W.alloc (.cells (u8s (List.replicate n 0)).toArray 5)) := by
 obtain ⟨i, hi, hz0, hz1, hz2⟩ := info_parts info5
 have h1 := run_make (P := Tryz.prog) W 31 5 i (.int .u8 0) Tryz.underlying31 hi hz0 .i64 .i64 n n (by omega) (by omega) (by rw [hz2]; omega) (by omega)
 rw [h1, hz1, Nat.mul_one, Int.toNat_natCast, made_is _ rfl]
 simp [u8s]
theorem make_ints (n : Nat) (h : n ≤ 1099511627776) (W : World) : (Instr.makeSlice 135 (.int .i64 (n : Int)) (.int .i64 (n : Int))).run Tryz.prog W =
 .ok (.slice (some ⟨W.heap.size, 0, none⟩) n n) (W.alloc (.cells (i64s (List.replicate n 0)).toArray 3)) := by
 obtain ⟨i, hi, hz0, hz1, hz2⟩ := info_parts info3
 have h1 := run_make (P := Tryz.prog) W 135 3 i (.int .i64 0) Tryz.underlying135 hi hz0 .i64 .i64 n n (by omega) (by omega) (by rw [hz2]; omega) (by omega)
 rw [h1, hz1, Nat.mul_one, Int.toNat_natCast, made_is _ rfl]
 simp [i64s]
theorem add_plain (b off j : Nat) : (⟨b, off, none⟩ : Addr).add j = ⟨b, off + j, none⟩ := by
 unfold Addr.add
 by_cases h : j = 0
 · subst h; simp
 · simp [h]
theorem Reads.src {w : World} {B n : Nat} {A : Option Addr} {xs : List Value} (h : Reads w B A n xs) (hn : 0 < n) : ∃ ad, A = some ad ∧ ad.block < B ∧ ∀ j v, xs[j]? = some v → w.cell? (ad.add j) = some v := by
 obtain ⟨b, off, e, hb, hc⟩ := h.2 hn
 exact ⟨⟨b, off, none⟩, e, hb, fun j v hv => by rw [add_plain]; exact hc j v hv⟩
theorem u8s_one (l : List Nat) : ∀ v ∈ u8s l, v.oneCell' = true := by
 intro v hv
 simp only [u8s, List.mem_map] at hv
 obtain ⟨x, _, rfl⟩ := hv
 rfl
theorem splice_all {α : Type} (Z cs : List α) (h : cs.length = Z.length) : splice Z 0 cs = cs := by
 rw [splice, List.take_zero, List.nil_append, List.drop_eq_nil_of_le (by omega), List.append_nil]
def fillL (vs : List Value) (z : Value) (k n : Nat) : List Value := vs.take k ++ List.replicate (n - k) z
theorem fillL_zero (vs : List Value) (z : Value) (n : Nat) : fillL vs z 0 n = List.replicate n z := by simp [fillL]
theorem fillL_all {vs : List Value} {z : Value} {n : Nat} (h : vs.length = n) : fillL vs z n n = vs := by rw [fillL, List.take_of_length_le (by omega)]; simp
theorem fillL_len {vs : List Value} {z : Value} {k n : Nat} (h : vs.length = n) (hk : k ≤ n) : (fillL vs z k n).length = n := by simp [fillL]; omega
theorem fillL_set {vs : List Value} {z v : Value} {k n : Nat} (h : vs.length = n) (hk : k < n) (hv : vs[k]? = some v) : (fillL vs z k n).toArray.setIfInBounds k v = (fillL vs z (k + 1) n).toArray := by
 have e : List.replicate (n - k) z = z :: List.replicate (n - (k + 1)) z := by rw [show n - k = (n - (k + 1)) + 1 by omega, List.replicate_succ]
 rw [fillL, fillL, e, List.setIfInBounds_toArray, List.set_append_right _ _ (by rw [List.length_take]; omega), List.length_take, Nat.min_eq_left (by omega), Nat.sub_self, List.set_cons_zero, List.take_add_one, hv]
 simp
theorem conv_bytes {W : World} {B n c : Nat} {A : Option Addr} {l : List Nat} (hr : Reads W B A n (u8s l)) (hA : n = 0 → ∃ b off, A = some ⟨b, off, none⟩) : (convert 31 9 (.slice A n c)).run Tryz.prog W = .ok (.string ⟨(l.map UInt8.ofNat).toArray⟩) W := by
 have hl : l.length = n := by have := hr.1; rwa [u8s_len] at this
 have e : strOfNums (l.map fun (x : Nat) => (x : Int)) = ⟨(l.map UInt8.ofNat).toArray⟩ := by
  unfold strOfNums
  rw [List.map_map]
  congr 2
 have key : ∃ b off, A = some ⟨b, off, none⟩ ∧ ∀ i, i < n → W.cell? ⟨b, off + i, none⟩ = some (.int .u8 ((l.map fun (x : Nat) => (x : Int)).getD i 0)) := by
  by_cases h0 : n = 0
  · obtain ⟨b, off, e⟩ := hA h0
    exact ⟨b, off, e, fun i hi => by omega⟩
  · obtain ⟨b, off, e, _, hc⟩ := hr.2 (by omega)
    refine ⟨b, off, e, fun i hi => ?_⟩
    have hil : i < l.length := by omega
    rw [hc i (.int .u8 (l[i] : Int)) (u8s_get (List.getElem?_eq_getElem hil))]
    simp [List.getD, List.getElem?_eq_getElem hil]
 obtain ⟨b, off, rfl, hc⟩ := key
 rw [run_convert_bytes_arg W 31 5 Tryz.underlying31 Tryz.underlying5 b off n c _ (by simpa using hl) hc 9 Tryz.underlying9, e]
def NumAt (w : World) (v : Value) (x : Dc.D) : Prop := ∃ A, v = .agg #[.bool x.neg, .slice A x.c.length x.c.length, .int .i64 x.e] ∧ Reads w w.heap.size A x.c.length (u8s x.c)
theorem below_drewN {B : Nat} {w w' : World} (h : Below B w w') (n : Nat) : Below B w (w'.drewN n) := by
 obtain ⟨a, b, c, d, e⟩ := h
 exact ⟨a, b, c, d, e⟩
end Go.Proofs.YtjapgpmoojfhnaaGreatDoor
namespace Go.Proofs.YtjapgpmoojfhnaaGreatDoor
open Go.RowKit Go.Lib
section
variable {P : Program} (w : World)
theorem run_append_of_nil (base : Nat) (t ty e : TypeId) (i : TypeInfo) (size : Nat) (ht : P.underlying t = some (.slice e)) (hi : P.info? e = some i)
 (v : Value) (n : Nat) (xs : List Value) (hown : w.ownsRow base e size v n xs) (c : Nat) : (Builtin.append_ #[t, t] ty #[v, .slice none 0 c]).run P w = .ok v w := by
 rcases hown.2 with ⟨rfl, rfl⟩ | ⟨g, cap, cur, rfl, _, _, hnc, _⟩
 · simp [Builtin.append_, run_underlying ht, sizeOf, typeInfo, hi, Builtin.lenOf, Builtin.firstCells]
 · simp [Builtin.append_, run_underlying ht, sizeOf, typeInfo, hi, Builtin.lenOf, Builtin.firstCells, hnc, storeCells]
theorem run_append_any (base : Nat) (t ty e : TypeId) (i : TypeInfo) (z : Value) (bytes : Nat) (ht : P.underlying t = some (.slice e)) (hi : P.info? e = some i) (hz : i.zero = some z)
 (hsize : i.size = 1) (hby : i.bytes = bytes) (hzs : z.cells.size = 1)
 (v : Value) (n : Nat) (xs : List Value) (hown : w.ownsRow base e 1 v n xs)
 (B : Nat) (A : Option Addr) (m c : Nat) (news : List Value) (hr : Reads w B A m news) (h1 : ∀ u ∈ news, u.oneCell' = true)
 (h63 : n + m ≤ maxLen) (hbytes : (n + m) * bytes ≤ 140737488355328) (hbase : base ≤ w.heap.size) :
 ∃ v' w', (Builtin.append_ #[t, t] ty #[v, .slice A m c]).run P w = .ok v' w' ∧ w'.ownsRow base e 1 v' (n + m) (xs ++ news) ∧ w.grownBy w' v.ownBlock := by
 rcases A with _ | ad
 · have hm : m = 0 := by
    rcases Nat.eq_zero_or_pos m with h0 | h0
    · exact h0
    · obtain ⟨b, off, h, _⟩ := hr.2 h0
      cases h
   subst hm
   have hn : news = [] := List.eq_nil_of_length_eq_zero hr.1
   subst hn
   exact ⟨v, w, run_append_of_nil w base t ty e i 1 ht hi v n xs hown c, by simpa using hown, World.grownBy.refl w _⟩
 · have hcells : ∀ j u, news[j]? = some u → w.cell? (ad.add j) = some u := by
    intro j u hu
    rcases Nat.eq_zero_or_pos m with h0 | h0
    · subst h0
      have hn : news = [] := List.eq_nil_of_length_eq_zero hr.1
      subst hn
      simp at hu
    · obtain ⟨b, off, h, _, hc⟩ := hr.2 h0
      injection h with h
      subst h
      rw [add_plain]
      exact hc j u hu
   obtain ⟨v', w', hrun, h2, h3, _, _⟩ := run_append_own_at (P := P) w base t ty e i z 1 bytes ht hi hz hsize hby hzs (by omega) v n xs hown ad m c news (by rw [hr.1]; omega) hcells h1 h63 hbytes hbase
   exact ⟨v', w', hrun, h2, h3⟩
theorem wp_append_any {o : Oper} {a : Act} {K : Act → World → Prop} {Q : Exit → Act → World → Prop} (s x : Operand) (t : TypeId)
 (ho : o.op = .call { callee := .builtin .append, args := #[s, x], argTypes := #[t, t] })
 (base : Nat) (e : TypeId) (i : TypeInfo) (z : Value) (bytes : Nat) (ht : P.underlying t = some (.slice e)) (hi : P.info? e = some i) (hz : i.zero = some z)
 (hsize : i.size = 1) (hby : i.bytes = bytes) (hzs : z.cells.size = 1)
 (v : Value) (n : Nat) (xs : List Value) (hs : a.eval s = v) (hown : w.ownsRow base e 1 v n xs)
 (B : Nat) (A : Option Addr) (m c : Nat) (news : List Value) (hx : a.eval x = .slice A m c) (hr : Reads w B A m news) (h1 : ∀ u ∈ news, u.oneCell' = true)
 (h63 : n + m ≤ maxLen) (hbytes : (n + m) * bytes ≤ 140737488355328) (hbase : base ≤ w.heap.size)
 (h : ∀ v' w', w'.ownsRow base e 1 v' (n + m) (xs ++ news) → w.grownBy w' v.ownBlock → K (a.put o.dst v') w') : o.wp P a w K Q := by
 obtain ⟨v', w', hrun, h2, h3⟩ := run_append_any (P := P) w base t o.type e i z bytes ht hi hz hsize hby hzs v n xs hown B A m c news hr h1 h63 hbytes hbase
 unfold Oper.wp execOp
 simp only [ho, resolve, invoke, builtin, Sem.run_bind, Sem.run_pure, Result.andThen_ok, List.map_toArray, List.map_cons, List.map_nil, hs, hx, hrun]
 exact h v' w' h2 h3
theorem wpList_append_any {ops : Array Oper} {rest : List Oper} {o : Oper} {a : Act} {Q : Exit → Act → World → Prop} (hgd : o.guard = none) (s x : Operand) (t : TypeId)
 (ho : o.op = .call { callee := .builtin .append, args := #[s, x], argTypes := #[t, t] })
 (base : Nat) (e : TypeId) (i : TypeInfo) (z : Value) (bytes : Nat) (ht : P.underlying t = some (.slice e)) (hi : P.info? e = some i) (hz : i.zero = some z)
 (hsize : i.size = 1) (hby : i.bytes = bytes) (hzs : z.cells.size = 1)
 (v : Value) (n : Nat) (xs : List Value) (hs : a.eval s = v) (hown : w.ownsRow base e 1 v n xs)
 (B : Nat) (A : Option Addr) (m c : Nat) (news : List Value) (hx : a.eval x = .slice A m c) (hr : Reads w B A m news) (h1 : ∀ u ∈ news, u.oneCell' = true)
 (h63 : n + m ≤ maxLen) (hbytes : (n + m) * bytes ≤ 140737488355328) (hbase : base ≤ w.heap.size)
 (h : ∀ v' w', w'.ownsRow base e 1 v' (n + m) (xs ++ news) → w.grownBy w' v.ownBlock → wpList P ops Q rest (a.put o.dst v') w') : wpList P ops Q (o :: rest) a w :=
 wpList_plain hgd fun _ hK => wp_append_any w s x t ho base e i z bytes ht hi hz hsize hby hzs v n xs hs hown B A m c news hx hr h1 h63 hbytes hbase fun v' w' h2 h3 => hK _ _ (h v' w' h2 h3)
theorem step_append_any {ops : Array Oper} {o : Oper} {a : Act} {K : Act → World → Prop} {Q : Exit → Act → World → Prop} {E : Prop} (hgd : o.guard = none) (s x : Operand) (t : TypeId)
 (ho : o.op = .call { callee := .builtin .append, args := #[s, x], argTypes := #[t, t] })
 (base : Nat) (e : TypeId) (i : TypeInfo) (z : Value) (bytes : Nat) (ht : P.underlying t = some (.slice e)) (hi : P.info? e = some i) (hz : i.zero = some z)
 (hsize : i.size = 1) (hby : i.bytes = bytes) (hzs : z.cells.size = 1)
 (v : Value) (n : Nat) (xs : List Value) (hs : a.eval s = v) (hown : w.ownsRow base e 1 v n xs)
 (B : Nat) (A : Option Addr) (m c : Nat) (news : List Value) (hx : a.eval x = .slice A m c) (hr : Reads w B A m news) (h1 : ∀ u ∈ news, u.oneCell' = true)
 (h63 : n + m ≤ maxLen) (hbytes : (n + m) * bytes ≤ 140737488355328) (hbase : base ≤ w.heap.size)
 (h : ∀ v' w', w'.ownsRow base e 1 v' (n + m) (xs ++ news) → w.grownBy w' v.ownBlock → K (a.put o.dst v') w') :
 if Region.wanted o (yielded ops a.tmps) = true then Oper.wp P o a w K Q else E := by
 have hw : Region.wanted o (yielded ops a.tmps) = true := by simp [Region.wanted, hgd]
 rw [if_pos hw]
 exact wp_append_any w s x t ho base e i z bytes ht hi hz hsize hby hzs v n xs hs hown B A m c news hx hr h1 h63 hbytes hbase h
end
theorem own_slice {w : World} {base : Nat} {e : TypeId} {v : Value} {n : Nat} {xs : List Value} (h : w.ownsRow base e 1 v n xs) : ∃ A c, v = .slice A n c ∧ n ≤ c ∧ Reads w w.heap.size A n xs := by
 rcases h.2 with ⟨rfl, rfl⟩ | ⟨g, cap, cur, rfl, _, _, h4, _⟩
 · exact ⟨none, 0, rfl, Nat.le_refl _, Reads.of_own h⟩
 · exact ⟨_, _, rfl, h4, Reads.of_own h⟩
end Go.Proofs.YtjapgpmoojfhnaaGreatDoor
