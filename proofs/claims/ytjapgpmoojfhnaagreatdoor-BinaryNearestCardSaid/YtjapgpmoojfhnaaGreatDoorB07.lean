/- The library's decimal on its way to its place: the loops that bring it between a half and one, the bounds of its binary exponent; numbers beyond the floats. Numbers beyond the floats and below them: the nearest rung is the infinity's, or nought. The library's decimal: where it begins, where it ends: the word of the nearest rung. The library's decimal: its digits are those .. -/
import Derived.Test.YtjapgpmoojfhnaaGreatDoorB04
import Derived.Test.YtjapgpmoojfhnaaGreatDoorB06
set_option maxHeartbeats 16000000
set_option maxRecDepth 100000
set_option linter.unusedSimpArgs false
set_option linter.unusedVariables false
namespace Go.Proofs.YtjapgpmoojfhnaaGreatDoor.Fl
open Ieee
theorem sc_lt {a b : Int} (ha : -3000 ≤ a) (hb : -3000 ≤ b) : sc a < sc b ↔ a < b := by
 unfold sc
 rw [Nat.pow_lt_pow_iff_right (by decide)]
 omega
theorem sc_le {a b : Int} (ha : -3000 ≤ a) (hb : -3000 ≤ b) : sc a ≤ sc b ↔ a ≤ b := by
 unfold sc
 rw [Nat.pow_le_pow_iff_right (by decide)]
 omega
theorem tw_le {a b : Int} (h : a ≤ b) : tw a ≤ tw b := by
 unfold tw
 exact Nat.pow_le_pow_right (by decide) (by omega)
def powt (d : Nat) : Nat := ([1, 3, 6, 9, 13, 16, 19, 23, 26] : List Nat).getD d 27
theorem powt_ok (d : Nat) : 1 ≤ powt d ∧ powt d ≤ 27 ∧ (1 ≤ d → 3 ≤ powt d ∧ 2 ^ powt d ≤ 10 ^ d) ∧ (d = 0 → powt d = 1) := by
 rcases Nat.lt_or_ge d 9 with h | h
 · have : d = 0 ∨ d = 1 ∨ d = 2 ∨ d = 3 ∨ d = 4 ∨ d = 5 ∨ d = 6 ∨ d = 7 ∨ d = 8 := by omega
   rcases this with rfl | rfl | rfl | rfl | rfl | rfl | rfl | rfl | rfl <;> simp [powt]
 · have e : powt d = 27 := by
    unfold powt
    rw [List.getD_eq_getElem?_getD, List.getElem?_eq_none (by simpa using h)]
    rfl
   rw [e]
   refine ⟨by decide, by decide, fun _ => ⟨by decide, ?_⟩, fun h0 => by omega⟩
   exact Nat.le_trans (by decide : 2 ^ 27 ≤ 10 ^ 9) (Nat.pow_le_pow_right (by decide) h)
def pF : Nat := 310
def pG : Nat := 1030
def pH : Nat := 331
theorem big_ten : 10 ^ pF ≤ 2 ^ pG := of_decide_eq_true (by kernel_rfl)
theorem big_two : 10 ^ pH ≤ 2 ^ pD := of_decide_eq_true (by kernel_rfl)
section
variable {M : Nat} {p s dp : Int} {j nd N k : Nat} {D : List Nat} {t : Bool}
theorem DcS.mag (h : DcS M p s j D nd dp t N) : sc (dp - 1) ≤ N * sc (dp - nd) ∧ N * sc (dp - nd) < sc dp := by
 have hl := h.st.low.1
 have hn := h.nd_pos
 have e1 := sc_add (a := dp - nd) nd hl
 rw [Int.sub_add_cancel] at e1
 have e2 := sc_add (a := dp - 1) 1 (by omega)
 rw [show dp - 1 + ((1 : Nat) : Int) = dp by omega, Nat.pow_one] at e2
 constructor
 · refine Nat.le_of_mul_le_mul_left (c := 10) ?_ (by decide)
   rw [← e2, e1, ← Nat.mul_assoc]
   exact Nat.mul_le_mul_right _ h.top
 · rw [e1]
   exact Nat.mul_lt_mul_of_pos_right h.num.1 (sc_pos _)
theorem DcS.first (h : DcS M p s j D nd dp t N) : (D.getD 0 0 < 53 → 2 * (N * sc (dp - nd)) < sc dp) ∧ (53 ≤ D.getD 0 0 → sc dp ≤ 2 * (N * sc (dp - nd))) := by
 have hn := h.nd_pos
 have e1 := sc_add (a := dp - nd) nd h.st.low.1
 rw [Int.sub_add_cancel] at e1
 have h0 := h.num.2 0 hn
 rw [Nat.sub_zero] at h0
 have hg : D.getD 0 0 = 48 + N / 10 ^ (nd - 1) % 10 := by rw [List.getD_eq_getElem?_getD, h0]; rfl
 have e2 : 10 ^ nd = 10 * 10 ^ (nd - 1) := by
  conv => lhs; rw [show nd = (nd - 1) + 1 by omega, Nat.pow_succ, Nat.mul_comm]
 have hlt := h.num.1
 rw [e2] at hlt
 have hp : 0 < 10 ^ (nd - 1) := Nat.pow_pos (by decide)
 have hq : N / 10 ^ (nd - 1) < 10 := (Nat.div_lt_iff_lt_mul hp).2 hlt
 rw [hg, Nat.mod_eq_of_lt hq, e1, ← Nat.mul_assoc, e2]
 constructor
 · intro hx
   refine Nat.mul_lt_mul_of_pos_right ?_ (sc_pos _)
   have : N < 5 * 10 ^ (nd - 1) := (Nat.div_lt_iff_lt_mul hp).1 (by omega)
   omega
 · intro hx
   refine Nat.mul_le_mul_right _ ?_
   have : 5 * 10 ^ (nd - 1) ≤ N := (Nat.le_div_iff_mul_le hp).1 (by omega)
   omega
theorem s_low_g {a b : Nat} (hab : 10 ^ a ≤ 2 ^ b) (hx : M * sc p < sc a) (hs : -4000 ≤ s) (h : sc 0 * tw 0 ≤ M * sc p * tw s) : -(b : Int) < s := by
 rcases Int.lt_or_le (-(b : Int)) s with h0 | h0
 · exact h0
 · exfalso
   have e1 := sc_add (a := 0) a (by omega)
   rw [Int.zero_add] at e1
   have e2 := tw_add (a := s) (-s).toNat hs
   rw [show s + ((-s).toNat : Int) = 0 by omega] at e2
   have h1 : M * sc p * tw s < sc a * tw s := Nat.mul_lt_mul_of_pos_right hx (tw_pos s)
   have h2 : 10 ^ a ≤ 2 ^ (-s).toNat := Nat.le_trans hab (Nat.pow_le_pow_right (by decide) (by omega))
   have h3 : sc a * tw s ≤ sc 0 * tw 0 := by
    rw [e1, e2]
    calc 10 ^ a * sc 0 * tw s = 10 ^ a * (sc 0 * tw s) := Nat.mul_assoc _ _ _
     _ ≤ 2 ^ (-s).toNat * (sc 0 * tw s) := Nat.mul_le_mul_right _ h2
     _ = _ := Nat.mul_left_comm _ _ _
   omega
theorem s_high_g {a b : Nat} (hab : 10 ^ a ≤ 2 ^ b) (ha : a ≤ 3000) (hx : sc (-(a : Int)) ≤ M * sc p) (h : M * sc p * tw s < 2 * (sc 0 * tw 0)) : s ≤ b := by
 rcases Int.lt_or_le s (b + 1 : Nat) with h0 | h0
 · omega
 · exfalso
   have e1 := sc_add (a := -(a : Int)) a (by omega)
   rw [Int.add_comm, ← Int.sub_eq_add_neg, Int.sub_self] at e1
   have e2 := tw_add (a := 0) (b + 1) (by omega)
   rw [Int.zero_add] at e2
   have h1 : tw ((b + 1 : Nat) : Int) ≤ tw s := tw_le h0
   rw [e2, Nat.pow_succ] at h1
   have h2 : sc (-(a : Int)) * tw s ≤ M * sc p * tw s := Nat.mul_le_mul_right _ hx
   have h3 : 2 * (sc 0 * tw 0) ≤ sc (-(a : Int)) * tw s := by
    rw [e1]
    calc 2 * (10 ^ a * sc (-(a : Int)) * tw 0) = 10 ^ a * (2 * (sc (-(a : Int)) * tw 0)) := by simp only [Nat.mul_assoc, Nat.mul_left_comm]
     _ ≤ 2 ^ b * (2 * (sc (-(a : Int)) * tw 0)) := Nat.mul_le_mul_right _ hab
     _ = sc (-(a : Int)) * (2 ^ b * 2 * tw 0) := by simp only [Nat.mul_assoc, Nat.mul_left_comm]
     _ ≤ _ := Nat.mul_le_mul_left _ h1
   omega
theorem s_low (hx : M * sc p < sc 310) (hs : -4000 ≤ s) (h : sc 0 * tw 0 ≤ M * sc p * tw s) : -1030 < s := by
 have := s_low_g big_ten (by rw [show ((pF : Nat) : Int) = 310 by unfold pF; rfl]; exact hx) hs h
 unfold pG at this
 omega
theorem s_high (hx : sc (-331) ≤ M * sc p) (h : M * sc p * tw s < 2 * (sc 0 * tw 0)) : s ≤ 1100 := by
 have := s_high_g big_two (by unfold pH; omega) (by rw [show -((pH : Nat) : Int) = -331 by unfold pH; rfl]; exact hx) h
 unfold pD at this
 omega
theorem DcS.lp1 (h : DcS M p s j D nd dp t N) (hx : M * sc p < sc 310) (hdp : 0 < dp) (hs : s ≤ 0) (hk : k ≤ 27) :
 -1030 < s ∧ Rng M p (s - k) ∧ sc 0 * tw (-30) ≤ M * sc p * tw (s - k) := by
 have hm := h.mag.1
 have h0 : sc 0 ≤ sc (dp - 1) := (sc_le (by omega) (by omega)).2 (by omega)
 have hV : sc 0 * tw 0 ≤ M * sc p * tw s := Nat.le_trans (Nat.mul_le_mul_right _ (Nat.le_trans h0 hm)) h.st.lo
 have hl := s_low hx h.st.low.2.2 hV
 have e1 := tw_add (a := s - k) k (by omega)
 rw [Int.sub_add_cancel] at e1
 have e2 := tw_add (a := -(k : Int)) k (by omega)
 rw [Int.add_comm, ← Int.sub_eq_add_neg, Int.sub_self] at e2
 have h3 : sc 0 * tw (-(k : Int)) ≤ M * sc p * tw (s - k) := by
  refine Nat.le_of_mul_le_mul_left (c := 2 ^ k) ?_ (Nat.pow_pos (by decide))
  rw [Nat.mul_left_comm, ← e2, Nat.mul_left_comm, ← e1]
  exact hV
 have h4 : sc 0 * tw (-30) ≤ M * sc p * tw (s - k) := Nat.le_trans (Nat.mul_le_mul_left _ (tw_le (by omega))) h3
 exact ⟨hl, rng_down (by omega) (by omega) h4, h4⟩
theorem DcS.lp2 (h : DcS M p s j D nd dp t N) (hj : j ≤ 5000) (hx : sc (-331) ≤ M * sc p) (hdp : dp ≤ 0) (hc : dp < 0 ∨ D.getD 0 0 < 53) (hs : -1100 ≤ s) (hv : 0 ≤ s ∨ sc 0 * tw (-30) ≤ M * sc p * tw s) :
 2 ^ powt (-dp).toNat * (N * sc (dp - nd)) < sc 0 ∧ s + powt (-dp).toNat ≤ 1100 ∧ Rng M p (s + powt (-dp).toNat) ∧ (0 ≤ s + powt (-dp).toNat ∨ sc 0 * tw (-30) ≤ M * sc p * tw (s + powt (-dp).toNat)) := by
 obtain ⟨p1, p2, p3, p4⟩ := powt_ok (-dp).toNat
 have h1 : 2 ^ powt (-dp).toNat * (N * sc (dp - nd)) < sc 0 := by
  rcases Nat.eq_zero_or_pos (-dp).toNat with h0 | h0
  · have hd0 : dp = 0 := by omega
    have := h.first.1 (hc.resolve_left (by omega))
    rw [p4 h0, Nat.pow_one]
    rwa [hd0] at this ⊢
  · obtain ⟨_, q2⟩ := p3 h0
    have e1 := sc_add (a := dp) (-dp).toNat (by have := h.st.low.1; have := h.nd_pos; omega)
    rw [show dp + ((-dp).toNat : Int) = 0 by omega] at e1
    rw [e1]
    exact Nat.lt_of_le_of_lt (Nat.mul_le_mul_right _ q2) (Nat.mul_lt_mul_of_pos_left h.mag.2 (Nat.pow_pos (by decide)))
 have hst := h.st.left (powt (-dp).toNat)
 have e3 : N * 2 ^ powt (-dp).toNat * sc (dp - nd) = 2 ^ powt (-dp).toNat * (N * sc (dp - nd)) := by rw [Nat.mul_comm N, Nat.mul_assoc]
 have htw := hst.twice hj
 rw [e3] at htw
 have h2 : M * sc p * tw (s + powt (-dp).toNat) < 2 * (sc 0 * tw 0) := Nat.lt_of_le_of_lt htw (Nat.mul_lt_mul_of_pos_left (Nat.mul_lt_mul_of_pos_right h1 (tw_pos 0)) (by decide))
 have hs2 := s_high hx h2
 have hv2 : 0 ≤ s + powt (-dp).toNat ∨ sc 0 * tw (-30) ≤ M * sc p * tw (s + powt (-dp).toNat) := by
  rcases hv with hv | hv
  · left; omega
  · right
    exact Nat.le_trans hv (Nat.mul_le_mul_left _ (tw_le (by omega)))
 refine ⟨h1, hs2, ?_, hv2⟩
 by_cases h0 : 0 ≤ s + powt (-dp).toNat
 · exact rng_up h0 hs2
 · exact rng_down (by omega) (by omega) (hv2.resolve_left h0)
theorem int_bounds (h : DcS M p s j D nd dp t N) : (N * sc (dp - nd) < 9007199254740992 * sc 0 → intQ N nd dp < 9007199254740992) ∧ (4503599627370496 * sc 0 ≤ N * sc (dp - nd) → 4503599627370496 ≤ intQ N nd dp) := by
 obtain ⟨c1, c2, _⟩ := int_cmp (t := t) h.num h.n0 h.st.low.1
 rw [← Nat.mul_assoc] at c1 c2
 have c1' := Nat.le_of_mul_le_mul_right c1 (tw_pos 0)
 have c2' := Nat.lt_of_mul_lt_mul_right c2
 constructor
 · intro hx
   exact Nat.lt_of_mul_lt_mul_right (Nat.lt_of_le_of_lt c1' hx)
 · intro hx
   have := Nat.lt_of_mul_lt_mul_right (Nat.lt_of_le_of_lt hx c2')
   omega
end
section
variable {M : Nat} {p : Int}
theorem vN_at (hp : -3000 ≤ p) {k : Nat} (hk : k = 1074) : vN M p * sc 0 = vD p * 2 ^ k * (M * sc p) := by
 have h := vN_link (M := M) (k := k) (s := 0) hp (by omega) (by omega)
 rw [← Nat.mul_assoc, ← Nat.mul_assoc] at h
 exact Nat.eq_of_mul_eq_mul_right (tw_pos 0) h
theorem near_inf_g {a b c k : Nat} (hk : k = 1074) (ha : a = 2045) (hb : 9007199254740992 * 2 ^ a = 2 ^ k * 2 ^ b) (hp : -3000 ≤ p) (hc : sc 0 * 2 ^ b ≤ M * sc p) (_ : c = 0) : Near (vN M p) (vD p) 9218868437227405312 := by
 have hl := vN_at (M := M) hp hk
 have hv : val double 9218868437227405312 = 2 ^ k * 2 ^ b := by
  have := val_at (k := a) (q := 9007199254740992) (.inr (by decide)) (Nat.le_refl _)
  rw [show a * 4503599627370496 + 9007199254740992 = 9218868437227405312 by omega] at this
  rw [this, hb]
 have hd := vD_pos p
 have hn : val double 9218868437227405312 * vD p ≤ vN M p := by
  refine Nat.le_of_mul_le_mul_right ?_ (sc_pos 0)
  rw [hl, hv]
  calc 2 ^ k * 2 ^ b * vD p * sc 0 = vD p * 2 ^ k * (sc 0 * 2 ^ b) := by simp only [Nat.mul_assoc, Nat.mul_comm, Nat.mul_left_comm]
   _ ≤ _ := Nat.mul_le_mul_left _ hc
 have hlt := val_lt (f := double) (show 9218868437227405312 - 1 < 9218868437227405312 by decide)
 refine ⟨Nat.le_refl _, .inr (.inl ?_), .inl rfl⟩
 generalize val double 9218868437227405312 = v at *
 generalize val double (9218868437227405312 - 1) = u at *
 have h1 : (u + v) * vD p < (v + v) * vD p := Nat.mul_lt_mul_of_pos_right (by omega) hd
 rw [Nat.add_mul v v] at h1
 omega
theorem near_zero_g {a b k : Nat} (hk : k = 1074) (hb : b = k + 1) (hab : 2 ^ b ≤ 10 ^ a) (ha : a ≤ 3000) (hp : -3000 ≤ p) (h : M * sc p < sc (-(a : Int))) : Near (vN M p) (vD p) 0 := by
 have hl := vN_at (M := M) hp hk
 have hd := vD_pos p
 have e1 := sc_add (a := -(a : Int)) a (by omega)
 rw [Int.add_comm, ← Int.sub_eq_add_neg, Int.sub_self] at e1
 have h0 : val double 0 = 0 := val_zero _
 have h1 : val double (0 + 1) = 1 := by
  have := val_at (k := 0) (q := 1) (.inl rfl) (by decide)
  simpa using this
 have hlt : 2 * vN M p < vD p := by
  refine Nat.lt_of_mul_lt_mul_right (a := sc 0) ?_
  rw [Nat.mul_assoc, hl]
  have e2 : 2 * (vD p * 2 ^ k * (M * sc p)) = vD p * (2 ^ b * (M * sc p)) := by
   rw [hb, Nat.pow_succ]
   simp only [Nat.mul_assoc, Nat.mul_left_comm]
  rw [e2]
  refine Nat.mul_lt_mul_of_pos_left ?_ hd
  rw [e1]
  exact Nat.lt_of_le_of_lt (Nat.mul_le_mul_right _ hab) (Nat.mul_lt_mul_of_pos_left h (Nat.pow_pos (by decide)))
 refine ⟨Nat.zero_le _, .inl rfl, .inr (.inl ?_)⟩
 rw [h0, h1]
 omega
def qA : Nat := 2045
def qB : Nat := 1024
def qK : Nat := 1074
def qL : Nat := 1075
theorem q_inf : 9007199254740992 * 2 ^ qA = 2 ^ qK * 2 ^ qB := of_decide_eq_true (by kernel_rfl)
theorem near_inf {s : Int} (hp : -3000 ≤ p) (hs : -4000 ≤ s) (h1 : s ≤ -1025) (h : sc 0 * tw 0 ≤ 2 * (M * sc p * tw s)) : Near (vN M p) (vD p) 9218868437227405312 := by
 refine near_inf_g (k := qK) (a := qA) (b := qB) (c := 0) rfl rfl q_inf hp ?_ rfl
 have e1 := tw_add (a := s) (-s).toNat hs
 rw [show s + ((-s).toNat : Int) = 0 by omega] at e1
 have e2 : 2 ^ (-s).toNat = 2 * 2 ^ ((-s).toNat - 1) := by
  conv => lhs; rw [show (-s).toNat = ((-s).toNat - 1) + 1 by omega, Nat.pow_succ, Nat.mul_comm]
 rw [e1, e2] at h
 have h2 : sc 0 * 2 ^ ((-s).toNat - 1) ≤ M * sc p := by
  refine Nat.le_of_mul_le_mul_right (c := 2 * tw s) ?_ (Nat.mul_pos (by decide) (tw_pos s))
  calc sc 0 * 2 ^ ((-s).toNat - 1) * (2 * tw s) = sc 0 * (2 * 2 ^ ((-s).toNat - 1) * tw s) := by simp only [Nat.mul_assoc, Nat.mul_left_comm]
   _ ≤ _ := h
   _ = _ := by simp only [Nat.mul_assoc, Nat.mul_left_comm]
 exact Nat.le_trans (Nat.mul_le_mul_left _ (Nat.pow_le_pow_right (by decide) (by unfold qB; omega))) h2
end
section
variable {M : Nat} {p s dp : Int} {j nd N k : Nat} {D : List Nat} {t : Bool}
theorem DcS.start (h : IsNum D nd M) (h0 : M % 10 ≠ 0) (ht : 10 ^ nd ≤ 10 * M) (hn : nd ≤ 800) (hp : -3000 ≤ dp - nd) : DcS M (dp - nd) 0 0 D nd dp false M :=
 ⟨h, h0, ht, hn, Dst.start (Nat.pos_of_ne_zero fun e => h0 (by rw [e])) hp, fun _ _ _ _ _ _ => rfl⟩
theorem start_size (h : IsNum D nd M) (ht : 10 ^ nd ≤ 10 * M) (hp : -3000 ≤ dp - nd) (hn : 0 < nd) : sc (dp - 1) ≤ M * sc (dp - nd) ∧ M * sc (dp - nd) < sc dp := by
 have e1 := sc_add (a := dp - nd) nd hp
 rw [Int.sub_add_cancel] at e1
 have e2 := sc_add (a := dp - 1) 1 (by omega)
 rw [show dp - 1 + ((1 : Nat) : Int) = dp by omega, Nat.pow_one] at e2
 constructor
 · refine Nat.le_of_mul_le_mul_left (c := 10) ?_ (by decide)
   rw [← e2, e1, ← Nat.mul_assoc]
   exact Nat.mul_le_mul_right _ ht
 · rw [e1]
   exact Nat.mul_lt_mul_of_pos_right h.1 (sc_pos _)
theorem q_ten : 2 ^ qB ≤ 10 ^ pF := of_decide_eq_true (by kernel_rfl)
theorem near_far (hp : -3000 ≤ p) (h : sc 310 ≤ M * sc p) : Near (vN M p) (vD p) 9218868437227405312 := by
 refine near_inf_g (k := qK) (a := qA) (b := qB) (c := 0) rfl rfl q_inf hp ?_ rfl
 have e1 := sc_add (a := 0) pF (by omega)
 rw [show (0 : Int) + ((pF : Nat) : Int) = 310 by unfold pF; rfl] at e1
 rw [e1] at h
 have h2 : sc 0 * 2 ^ qB ≤ 10 ^ pF * sc 0 := by
  generalize sc 0 = z
  rw [Nat.mul_comm z]
  exact Nat.mul_le_mul_right _ q_ten
 exact Nat.le_trans h2 h
theorem DcS.final {S dp2 : Int} {nd2 N2 : Nat} {D2 : List Nat} {t2 : Bool} (h2 : DcS M p (S + 53) (j + 1) D2 nd2 dp2 t2 N2) (hle : N2 * sc (dp2 - nd2) ≤ 2 ^ 53 * (N * sc (dp - nd)))
 (hge : ∀ A, A * sc 0 ≤ 2 ^ 53 * (N * sc (dp - nd)) → dp2 ≤ 800 → A * sc 0 ≤ N2 * sc (dp2 - nd2)) (hV : N * sc (dp - nd) < sc 0) (hk : S = 1021 ∨ sc 0 ≤ 2 * (N * sc (dp - nd))) (hS : -1024 ≤ S ∧ S ≤ 1021) (hj : j + 1 ≤ 5000) (hp : -731 ≤ p) (hp4 : S < -53 → -400 ≤ p) :
 Near (vN M p) (vD p) (min ((1021 - S).toNat * 4503599627370496 + rndN D2 N2 nd2 dp2 t2) 9218868437227405312) ∧ rndN D2 N2 nd2 dp2 t2 ≤ 9007199254740992 ∧ (S = 1021 ∨ 4503599627370496 ≤ rndN D2 N2 nd2 dp2 t2) ∧ dp2 ≤ 16 := by
 rw [show (2 : Nat) ^ 53 = 9007199254740992 from rfl] at hle hge
 have hlt : N2 * sc (dp2 - nd2) < 9007199254740992 * sc 0 := Nat.lt_of_le_of_lt hle (Nat.mul_lt_mul_of_pos_left hV (by decide))
 have e16 := sc_add (a := 0) 16 (by omega)
 have hd16 : dp2 ≤ 16 := by
  have h1 : sc (dp2 - 1) < sc 16 := by
   refine Nat.lt_of_le_of_lt h2.mag.1 (Nat.lt_of_lt_of_le hlt ?_)
   rw [show (16 : Int) = 0 + ((16 : Nat) : Int) by rfl, e16]
   exact Nat.mul_le_mul_right _ (by decide)
  have := (sc_lt (by have := h2.st.low.1; have := h2.nd_pos; omega) (by omega)).1 h1
  omega
 obtain ⟨b1, b2⟩ := int_bounds h2
 have hq := b1 hlt
 have hkq : S = 1021 ∨ 4503599627370496 ≤ intQ N2 nd2 dp2 := hk.imp id fun hx => b2 (hge _ (by
  have := Nat.mul_le_mul_left 4503599627370496 hx
  omega) (by omega))
 have hr : rndN D2 N2 nd2 dp2 t2 = intQ N2 nd2 dp2 ∨ rndN D2 N2 nd2 dp2 t2 = intQ N2 nd2 dp2 + 1 := by
  unfold rndN
  split
  · exact .inr rfl
  · exact .inl rfl
 refine ⟨?_, by omega, hkq.imp id fun hx => by omega, hd16⟩
 refine h2.rounded hj (by omega) (by omega) ?_ hq ?_
 · by_cases h53 : S < -53
   · right
     have := hp4 h53
     unfold pB
     omega
   · left
     unfold pA
     omega
 · rcases hkq with hx | hx
   · left; omega
   · exact .inr hx
end
end Go.Proofs.YtjapgpmoojfhnaaGreatDoor.Fl
namespace Go.Proofs.YtjapgpmoojfhnaaGreatDoor.Fl
open Go.Proofs.YtjapgpmoojfhnaaGreatDoor.Dc (Digs)
theorem num_place {l : List Nat} (h : Digs l) {i x : Nat} (hx : l[i]? = some x) : num l / 10 ^ (l.length - 1 - i) % 10 = x := by
 have hi := (List.getElem?_eq_some_iff.1 hx).1
 have e : l = l.take i ++ x :: l.drop (i + 1) := by
  conv => lhs; rw [← List.take_append_drop i l, List.drop_eq_getElem_cons hi]
  rw [(List.getElem?_eq_some_iff.1 hx).2]
 have hx10 : x < 10 := h x (List.mem_of_getElem? hx)
 have hd : num (l.drop (i + 1)) < 10 ^ (l.length - 1 - i) := by
  have := num_lt (l := l.drop (i + 1)) fun y hy => h y (List.mem_of_mem_drop hy)
  rwa [List.length_drop, show l.length - (i + 1) = l.length - 1 - i by omega] at this
 have hp : 0 < 10 ^ (l.length - 1 - i) := Nat.pow_pos (by decide)
 have e2 : num l = 10 ^ (l.length - 1 - i) * (10 * num (l.take i) + x) + num (l.drop (i + 1)) := by
  conv => lhs; rw [e]
  rw [num_append, num_cons, List.length_cons, List.length_drop, show l.length - (i + 1) = l.length - 1 - i by omega, Nat.pow_succ, Nat.mul_add]
  have a1 : num (l.take i) * (10 ^ (l.length - 1 - i) * 10) = 10 ^ (l.length - 1 - i) * (10 * num (l.take i)) := by rw [Nat.mul_left_comm, Nat.mul_comm _ 10, Nat.mul_left_comm, Nat.mul_left_comm 10]
  have a2 : x * 10 ^ (l.length - 1 - i) = 10 ^ (l.length - 1 - i) * x := Nat.mul_comm _ _
  omega
 rw [e2, Nat.mul_add_div hp, Nat.div_eq_of_lt hd]
 omega
theorem isNum_text {l rest : List Nat} (h : Digs l) : IsNum (l.map (48 + ·) ++ rest) l.length (num l) := by
 refine ⟨num_lt h, fun i hi => ?_⟩
 rw [List.getElem?_append_left (by simpa using hi), List.getElem?_map, List.getElem?_eq_getElem hi, Option.map_some, num_place h (List.getElem?_eq_getElem hi)]
theorem num_top {l : List Nat} (hne : l ≠ []) (hd : ∀ x, l.head? = some x → x ≠ 0) : 10 ^ l.length ≤ 10 * num l := by
 cases l with
 | nil => exact absurd rfl hne
 | cons x l =>
   have := num_ge (l := l) (hd x rfl)
   rw [List.length_cons, Nat.pow_succ]
   omega
end Go.Proofs.YtjapgpmoojfhnaaGreatDoor.Fl
namespace Go.Proofs.YtjapgpmoojfhnaaGreatDoor.Fl
section
variable {D : List Nat} {N nd k t r w : Nat}
theorem IsNum.digit (h : IsNum D nd N) {i : Nat} (hi : i < nd) : ∃ c, c < 10 ∧ D[i]? = some (48 + c) ∧ c = N / 10 ^ (nd - 1 - i) % 10 := ⟨_, Nat.mod_lt _ (by decide), h.2 i hi, rfl⟩
theorem rs_take {c : Nat} (h : r < nd) (hc : c = N / 10 ^ (nd - 1 - r) % 10) : 10 * preN N nd r + c = preN N nd (r + 1) := by rw [pre_low h, hc]
theorem rs_first (h : preN N nd r < 2 ^ k) : remN N nd k (r + 1) = preN N nd (r + 1) := by
 unfold remN
 rw [Nat.add_sub_cancel, Nat.div_eq_of_lt h, Nat.mul_zero, Nat.sub_zero]
theorem rs_digit (N nd k r w : Nat) : outN N nd k r (w + 1) % 10 = remN N nd k (r + w + 1) / 2 ^ k ∧ remN N nd k (r + w + 1) / 2 ^ k < 10 := by
 obtain ⟨h1, h2⟩ := rem_digit (N := N) (n := nd) (k := k) (t := r + w)
 exact ⟨h2, h1⟩
theorem rs_low {c : Nat} (h : t + 1 < nd) (hc : c = N / 10 ^ (nd - 1 - (t + 1)) % 10) : remN N nd k (t + 2) = 10 * (remN N nd k (t + 1) % 2 ^ k) + c := by
 rw [rem_next, pre_low h, hc]
 omega
theorem rs_high (h : nd ≤ t + 1) : remN N nd k (t + 2) = 10 * (remN N nd k (t + 1) % 2 ^ k) := by
 rw [rem_next, pre_high h]
 omega
theorem rs_end (h : nd ≤ t + 1) (h0 : remN N nd k (t + 2) = 0) : preN N nd (t + 1) % 2 ^ k = 0 := by
 rw [rs_high h] at h0
 rw [← rem_mod]
 omega
theorem pre_all (h : nd ≤ t) : preN N nd t = N * 10 ^ (t - nd) := by
 unfold preN
 split
 · rw [show nd - t = 0 by omega, show t - nd = 0 by omega, Nat.pow_zero, Nat.div_one, Nat.mul_one]
 · rfl
theorem rs_stop (h : nd + k ≤ t + 1) : remN N nd k (t + 2) = 0 := by
 rw [rs_high (by omega), rem_mod, pre_all (by omega)]
 obtain ⟨y, hy⟩ : ∃ y, t + 1 - nd = k + y := ⟨t + 1 - nd - k, by omega⟩
 rw [hy, Nat.pow_add, show (10 : Nat) ^ k = 5 ^ k * 2 ^ k by rw [← Nat.mul_pow]]
 have e : N * (5 ^ k * 2 ^ k * 10 ^ y) = 2 ^ k * (N * 5 ^ k * 10 ^ y) := by simp only [Nat.mul_assoc, Nat.mul_left_comm]
 rw [e, Nat.mul_mod_right]
theorem rs_pos (h0 : N % 10 ≠ 0) (_ : 0 < nd) (hr : preN N nd r < 2 ^ k) (hr1 : 2 ^ k ≤ preN N nd (r + 1)) (hw : r + w + 1 = max nd (r + 1)) : remN N nd k (r + w + 1) ≠ 0 := by
 rcases Nat.eq_zero_or_pos w with hw0 | hw0
 · subst hw0
   rw [Nat.add_zero, rs_first hr]
   have := Nat.pow_pos (by decide : 0 < 2) (n := k)
   omega
 · have hnd2 : nd = (r + w - 1) + 2 := by omega
   have := rs_low (N := N) (nd := nd) (k := k) (t := r + w - 1) (c := N / 10 ^ (nd - 1 - (r + w - 1 + 1)) % 10) (by omega) rfl
   rw [show r + w + 1 = r + w - 1 + 2 by omega, this, show nd - 1 - (r + w - 1 + 1) = 0 by omega, Nat.pow_zero, Nat.div_one]
   omega
theorem rs_fits (hk : k ≤ 60) : remN N nd k (t + 1) < 18446744073709551616 := by
 have h1 := rem_lt (N := N) (n := nd) (k := k) (t := t)
 have h2 : 2 ^ k ≤ 2 ^ 60 := Nat.pow_le_pow_right (by decide) hk
 have h3 : (2 : Nat) ^ 60 = 1152921504606846976 := by decide
 omega
end
end Go.Proofs.YtjapgpmoojfhnaaGreatDoor.Fl
namespace Go.Proofs.YtjapgpmoojfhnaaGreatDoor.Fl
open Ieee
section
variable {M : Nat} {p s dp dp0 : Int} {j nd N k r w : Nat} {D D1 : List Nat} {t t1 : Bool}
theorem pre_ge (hnd : 0 < nd) (h : 10 ^ nd ≤ 10 * N) (hr : 0 < r) : 10 ^ (r - 1) ≤ preN N nd r := by
 have e2 : 10 ^ nd = 10 * 10 ^ (nd - 1) := by
  conv => lhs; rw [show nd = (nd - 1) + 1 by omega, Nat.pow_succ, Nat.mul_comm]
 have hN : 10 ^ (nd - 1) ≤ N := by omega
 unfold preN
 split
 · rw [Nat.le_div_iff_mul_le (Nat.pow_pos (by decide)), ← Nat.pow_add, show r - 1 + (nd - r) = nd - 1 by omega]
   exact hN
 · rw [show r - 1 = (nd - 1) + (r - nd) by omega, Nat.pow_add]
   exact Nat.mul_le_mul_right _ hN
theorem r_small (hnd : 0 < nd) (h : 10 ^ nd ≤ 10 * N) (hk : k ≤ 60) (hr : preN N nd r < 2 ^ k) : r ≤ 19 := by
 rcases Nat.lt_or_ge 19 r with h0 | h0
 · exfalso
   have h1 := pre_ge hnd h (r := r) (by omega)
   have h2 : 10 ^ 19 ≤ 10 ^ (r - 1) := Nat.pow_le_pow_right (by decide) (by omega)
   have h3 : 2 ^ k ≤ 2 ^ 60 := Nat.pow_le_pow_right (by decide) hk
   have h4 : (2 : Nat) ^ 60 = 1152921504606846976 := by decide
   have h5 : (10 : Nat) ^ 19 = 10000000000000000000 := by decide
   omega
 · exact h0
theorem dpT_pos {n : Nat} (h : 0 < n) (dp : Int) : dpT n dp = dp := by unfold dpT; rw [if_neg (by omega)]
theorem DcS.right_step (h : DcS M p s j D nd dp t N) (hk : k ≤ 60) (hR : RSt D N k nd r t D1 w t1) (h0 : preN N nd r < 2 ^ k) (h1 : 2 ^ k ≤ preN N nd (r + 1)) (hz : preN N nd (r + w) % 2 ^ k = 0) (hge : nd ≤ r + w) (hw : 0 < w) (hw2 : w ≤ nd + k + 2) (hr : Rng M p (s - k)) (hdp : -400 ≤ dp) (hs : -1100 ≤ s - k) :
 ∃ N1, DcS M p (s - k) (j + 1) D1 (trimN D1 (min w 800)) (dp - r) t1 N1 ∧ 2 ^ k * (N1 * sc (dp - r - trimN D1 (min w 800))) ≤ N * sc (dp - nd) ∧ r ≤ 19 ∧ dpT (trimN D1 (min w 800)) (dp - r) = dp - r := by
 have hr19 := r_small h.nd_pos h.top hk h0
 have hle := h.le
 obtain ⟨N1, a1, a2⟩ := h.right hR h0 h1 hz hge hw hr ⟨by omega, hs⟩
 exact ⟨N1, a1, a2, hr19, dpT_pos a1.nd_pos _⟩
theorem DcS.left_step (h : DcS M p s j D nd dp t N) (h1 : 1 ≤ k) (h2 : k ≤ 60) (hL : LSt D N k nd (lenL D nd k) t D1 (lenL D nd k) t1) (hr : Rng M p (s + k)) (hdp : -400 ≤ dp) (hs : -1100 ≤ s) :
 ∃ N1, DcS M p (s + k) (j + 1) D1 (trimN D1 (min (lenL D nd k) 800)) (dp + (lenL D nd k - nd : Int)) t1 N1 ∧
   N1 * sc (dp + (lenL D nd k - nd : Int) - trimN D1 (min (lenL D nd k) 800)) ≤ 2 ^ k * (N * sc (dp - nd)) ∧ (∀ A, A * sc 0 ≤ 2 ^ k * (N * sc (dp - nd)) → dp + (lenL D nd k - nd : Int) ≤ 800 → A * sc 0 ≤ N1 * sc (dp + (lenL D nd k - nd : Int) - trimN D1 (min (lenL D nd k) 800))) ∧
   dpT (trimN D1 (min (lenL D nd k) 800)) (dp + (lenL D nd k - nd : Int)) = dp + (lenL D nd k - nd : Int) := by
 have hle := h.le
 obtain ⟨N1, a1, a2, a3⟩ := h.left h1 h2 hL hr ⟨by omega, hs⟩
 exact ⟨N1, a1, a2, a3, dpT_pos a1.nd_pos _⟩
theorem lenL_bounds (h1 : 1 ≤ k) (h2 : k ≤ 60) : nd ≤ lenL D nd k ∧ lenL D nd k ≤ nd + 19 := by
 obtain ⟨c1, c2, c3, _⟩ := ch_ok k h1 h2
 have h19 : chD k ≤ 19 := by
  rcases Nat.lt_or_ge 19 (chD k) with h0 | h0
  · exfalso
    have q1 : 10 ^ 20 ≤ 10 ^ chD k := Nat.pow_le_pow_right (by decide) h0
    have q2 : 2 ^ k ≤ 2 ^ 60 := Nat.pow_le_pow_right (by decide) h2
    have h4 : (2 : Nat) ^ 60 = 1152921504606846976 := by decide
    have h5 : (10 : Nat) ^ 20 = 100000000000000000000 := by decide
    omega
  · exact h0
 unfold lenL
 split <;> omega
structure FbS (M : Nat) (p dp0 s : Int) (j : Nat) (D : List Nat) (nd : Nat) (dp : Int) (t : Bool) (N : Nat) : Prop where
 st : DcS M p s j D nd dp t N
 neg : s < 0 → 0 < dp0
 lo : -1057 ≤ s
 dlo : -400 ≤ dp
 dhi : dp ≤ 400
 v : 0 ≤ s ∨ sc 0 * tw (-30) ≤ M * sc p * tw s
theorem FbS.one (h : FbS M p dp0 s j D nd dp t N) (hx : M * sc p < sc 310) (hdp : 0 < dp) (hs : s ≤ 0) (h0 : 0 < dp0) (hk1 : 1 ≤ k) (hk : k ≤ 27)
 (hR : RSt D N k nd r t D1 w t1) (hr0 : preN N nd r < 2 ^ k) (hr1 : 2 ^ k ≤ preN N nd (r + 1)) (hz : preN N nd (r + w) % 2 ^ k = 0) (hge : nd ≤ r + w) (hw : 0 < w) (hw2 : w ≤ nd + k + 2) :
 ∃ N1, FbS M p dp0 (s - k) (j + 1) D1 (trimN D1 (min w 800)) (dp - r) t1 N1 ∧ dpT (trimN D1 (min w 800)) (dp - r) = dp - r ∧ -1030 < s := by
 obtain ⟨a1, a2, a3⟩ := h.st.lp1 hx hdp hs hk
 obtain ⟨N1, b1, b2, b3, b4⟩ := h.st.right_step (by omega) hR hr0 hr1 hz hge hw hw2 a2 h.dlo (by omega)
 have := h.dhi
 exact ⟨N1, ⟨b1, fun _ => h0, by omega, by omega, by omega, .inr a3⟩, b4, a1⟩
theorem FbS.two (h : FbS M p dp0 s j D nd dp t N) (hj : j ≤ 5000) (hx : sc (-331) ≤ M * sc p) (hdp : dp ≤ 0) (hc : dp < 0 ∨ D.getD 0 0 < 53) (hk : k = powt (-dp).toNat)
 (hL : LSt D N k nd (lenL D nd k) t D1 (lenL D nd k) t1) :
 ∃ N1, FbS M p dp0 (s + k) (j + 1) D1 (trimN D1 (min (lenL D nd k) 800)) (dp + (lenL D nd k - nd : Int)) t1 N1 ∧
   dpT (trimN D1 (min (lenL D nd k) 800)) (dp + (lenL D nd k - nd : Int)) = dp + (lenL D nd k - nd : Int) ∧ dp + (lenL D nd k - nd : Int) ≤ 0 ∧ s + k ≤ 1100 := by
 subst hk
 obtain ⟨q1, q2, _⟩ := powt_ok (-dp).toNat
 obtain ⟨a1, a2, a3, a4⟩ := h.st.lp2 hj hx hdp hc (by have := h.lo; omega) h.v
 obtain ⟨N1, b1, b2, b3, b4⟩ := h.st.left_step q1 (by omega) hL a3 h.dlo (by have := h.lo; omega)
 obtain ⟨l1, l2⟩ := lenL_bounds (D := D) (nd := nd) (k := powt (-dp).toNat) q1 (by omega)
 have h2 := Nat.lt_of_le_of_lt b1.mag.1 (Nat.lt_of_le_of_lt b2 a1)
 have h3 := (sc_lt (by have := h.dlo; omega) (by omega)).1 h2
 have := h.dlo
 have := h.lo
 exact ⟨N1, ⟨b1, fun hs => h.neg (by omega), by omega, by omega, by omega, a4⟩, b4, by omega, a2⟩
theorem FbS.at_ (h : FbS M p dp0 s j D nd dp t N) (hdp : dp = 0) (hc : 53 ≤ D.getD 0 0) : N * sc (dp - nd) < sc 0 ∧ sc 0 ≤ 2 * (N * sc (dp - nd)) := by
 have h1 := h.st.mag.2
 have h2 := h.st.first.2 hc
 rw [hdp] at h1 h2 ⊢
 exact ⟨h1, h2⟩
theorem FbS.inf (h : FbS M p dp0 s j D nd dp t N) (hdp : dp = 0) (hc : 53 ≤ D.getD 0 0) (hs : s ≤ -1025) (hp : -3000 ≤ p) : Near (vN M p) (vD p) 9218868437227405312 := by
 have h2 := (h.at_ hdp hc).2
 refine near_inf hp h.st.st.low.2.2 hs ?_
 have h3 := h.st.st.lo
 have h4 := Nat.mul_le_mul_right (tw 0) h2
 rw [Nat.mul_assoc 2] at h4
 exact Nat.le_trans h4 (Nat.mul_le_mul_left 2 h3)
end
section
variable {M : Nat} {p s S dp dp0 : Int} {j nd N k : Nat} {D D1 : List Nat} {t t1 : Bool}
theorem fb_last (h : DcS M p S j D nd dp t N) (hV : N * sc (dp - nd) < sc 0) (hk : S = 1021 ∨ sc 0 ≤ 2 * (N * sc (dp - nd))) (hS : -1024 ≤ S ∧ S ≤ 1021) (hj : j + 1 ≤ 5000) (hp : -731 ≤ p) (hp4 : S < -53 → -400 ≤ p) (hv : 0 ≤ S ∨ sc 0 * tw (-30) ≤ M * sc p * tw S) (hdp : -400 ≤ dp)
 (hL : LSt D N 53 nd (lenL D nd 53) t D1 (lenL D nd 53) t1) :
 ∃ N1, IsNum D1 (trimN D1 (min (lenL D nd 53) 800)) N1 ∧ trimN D1 (min (lenL D nd 53) 800) ≤ 800 ∧ dpT (trimN D1 (min (lenL D nd 53) 800)) (dp + (lenL D nd 53 - nd : Int)) = dp + (lenL D nd 53 - nd : Int) ∧
   Near (vN M p) (vD p) (min ((1021 - S).toNat * 4503599627370496 + rndN D1 N1 (trimN D1 (min (lenL D nd 53) 800)) (dp + (lenL D nd 53 - nd : Int)) t1) 9218868437227405312) ∧
   rndN D1 N1 (trimN D1 (min (lenL D nd 53) 800)) (dp + (lenL D nd 53 - nd : Int)) t1 ≤ 9007199254740992 ∧ (S = 1021 ∨ 4503599627370496 ≤ rndN D1 N1 (trimN D1 (min (lenL D nd 53) 800)) (dp + (lenL D nd 53 - nd : Int)) t1) ∧ dp + (lenL D nd 53 - nd : Int) ≤ 16 ∧ -10000 ≤ dp + (lenL D nd 53 - nd : Int) := by
 have hr : Rng M p (S + (53 : Nat)) := by
  by_cases h0 : 0 ≤ S + (53 : Nat)
  · exact rng_up h0 (by omega)
  · exact rng_down (by omega) (by omega) (Nat.le_trans (hv.resolve_left (by omega)) (Nat.mul_le_mul_left _ (tw_le (by omega))))
 obtain ⟨N1, b1, b2, b3, b4⟩ := h.left_step (by decide) (by decide) hL hr hdp (by omega)
 obtain ⟨f1, f2, f3, f4⟩ := DcS.final (S := S) (dp2 := dp + (lenL D nd 53 - nd : Int)) b1 b2 b3 hV hk hS hj hp hp4
 obtain ⟨l1, l2⟩ := lenL_bounds (D := D) (nd := nd) (k := 53) (by decide) (by decide)
 exact ⟨N1, b1.num, b1.le, b4, f1, f2, f3, f4, by omega⟩
end
theorem pack_is {k m : Nat} (hm : m < 9007199254740992) (hk : k = 0 ∨ 4503599627370496 ≤ m) : pack m ((k : Int) - 1074) = min (k * 4503599627370496 + m) 9218868437227405312 := by
 unfold pack
 split
 · have : m < 4503599627370496 := by omega
   rw [Nat.min_eq_left (by omega)]
   omega
 · split
   · rw [Nat.min_eq_right (by omega)]
   · rw [Nat.min_eq_left (by omega), show (1075 + ((k : Int) - 1074)).toNat = k + 1 by omega]
     omega
theorem lp_bounds {p : Int} (h0 : -345 ≤ p) (h1 : p ≤ 310) : -1147 ≤ lp p ∧ lp p ≤ 1029 := by unfold lp; omega
theorem bitl_bounds {d : Nat} (h0 : 0 < d) (h : d < 18446744073709551616) : 1 ≤ bitl d ∧ bitl d ≤ 64 ∧ 9223372036854775808 ≤ d * 2 ^ (64 - bitl d) ∧ d * 2 ^ (64 - bitl d) < 18446744073709551616 ∧ d < 2 ^ bitl d := by
 obtain ⟨a, b⟩ := lt_log d (by omega)
 have hb : d.log2 ≤ 63 := by
  have := (Nat.log2_lt (by omega : d ≠ 0)).2 (show d < 2 ^ 64 by omega)
  omega
 unfold bitl
 refine ⟨by omega, by omega, ?_, ?_, b⟩
 · have : 2 ^ d.log2 * 2 ^ (64 - (d.log2 + 1)) ≤ d * 2 ^ (64 - (d.log2 + 1)) := Nat.mul_le_mul_right _ a
   rw [← Nat.pow_add, show d.log2 + (64 - (d.log2 + 1)) = 63 by omega] at this
   simpa using this
 · have : d * 2 ^ (64 - (d.log2 + 1)) < 2 ^ (d.log2 + 1) * 2 ^ (64 - (d.log2 + 1)) := Nat.mul_lt_mul_of_pos_right b (Nat.two_pow_pos _)
   rw [← Nat.pow_add, show d.log2 + 1 + (64 - (d.log2 + 1)) = 64 by omega] at this
   simpa using this
theorem ratio {d : Nat} {p : Int} {b s k : Nat} (hb : b ≤ 64) (hs : (s : Int) = 61 - b - (1074 - (k : Int)) - lp p) (hl0 : -1147 ≤ lp p) (hneg : p < 0 → lp p ≤ 127) :
 d * 2 ^ (64 - b) * tN p * (vD p * 2 ^ k) = 4 * vN d p * (tD p * 2 ^ (128 + s)) := by
 unfold vD vN tN tD
 by_cases h : 0 ≤ p
 · simp only [if_pos h, Nat.one_mul]
   have e : 2 ^ (64 - b) * 2 ^ (127 - lp p).toNat * 2 ^ k = 4 * 2 ^ 1074 * 2 ^ (lp p - 127).toNat * 2 ^ (128 + s) := by
    rw [show (4 : Nat) = 2 ^ 2 from rfl]
    simp only [← Nat.pow_add]
    congr 1
    omega
   generalize 2 ^ (64 - b) = x1 at *
   generalize 2 ^ (127 - lp p).toNat = x2 at *
   generalize 2 ^ k = x3 at *
   generalize 2 ^ (lp p - 127).toNat = x4 at *
   generalize 2 ^ (128 + s) = x5 at *
   generalize 2 ^ 1074 = x6 at *
   generalize 10 ^ p.toNat = x7 at *
   calc d * x1 * (x7 * x2) * x3 = d * x7 * (x1 * x2 * x3) := by simp only [Nat.mul_comm, Nat.mul_left_comm]
    _ = d * x7 * (4 * x6 * x4 * x5) := by rw [e]
    _ = _ := by simp only [Nat.mul_assoc, Nat.mul_comm, Nat.mul_left_comm]
 · simp only [if_neg h]
   have e : 2 ^ (64 - b) * 2 ^ (127 - lp p).toNat * 2 ^ k = 4 * 2 ^ 1074 * 2 ^ (128 + s) := by
    rw [show (4 : Nat) = 2 ^ 2 from rfl]
    simp only [← Nat.pow_add]
    congr 1
    have := hneg (by omega)
    omega
   generalize 2 ^ (64 - b) = x1 at *
   generalize 2 ^ (127 - lp p).toNat = x2 at *
   generalize 2 ^ k = x3 at *
   generalize 2 ^ (128 + s) = x5 at *
   generalize 2 ^ 1074 = x6 at *
   generalize 10 ^ (-p).toNat = x7 at *
   calc d * x1 * x2 * (x7 * x3) = d * x7 * (x1 * x2 * x3) := by simp only [Nat.mul_comm, Nat.mul_left_comm]
    _ = d * x7 * (4 * x6 * x5) := by rw [e]
    _ = _ := by simp only [Nat.mul_assoc, Nat.mul_comm, Nat.mul_left_comm]
theorem near_tiny {d b h l : Nat} {p : Int} (dlt : d < 2 ^ b) (hp : p < 0) (hb : (b : Int) + 1076 < -lp p) (R : Row1 p h l) : Near (vN d p) (vD p) 0 := by
 refine ⟨by decide, .inl rfl, .inr (.inl ?_)⟩
 rw [val_zero, val_low (by rw [d_binade]; decide), Nat.zero_add, Nat.zero_add, Nat.one_mul]
 have ht := R.up
 have htop := R.top
 obtain ⟨z, hz⟩ : ∃ z, (2 : Nat) ^ 128 = z := ⟨_, rfl⟩
 have hup : tN p ≤ z * tD p := Nat.le_trans ht (Nat.mul_le_mul_right _ (by omega))
 unfold vN vD
 unfold tN tD at hup
 rw [if_neg (by omega)] at hup ⊢
 rw [if_neg (by omega)] at hup ⊢
 have e1 : 2 ^ (127 - lp p).toNat = z * 2 ^ (-1 - lp p).toNat := by rw [← hz, ← Nat.pow_add]; congr 1; omega
 rw [e1] at hup
 have h3 : 2 ^ (-1 - lp p).toNat ≤ 10 ^ (-p).toNat := Nat.le_of_mul_le_mul_left hup (by rw [← hz]; exact Nat.two_pow_pos _)
 obtain ⟨m, hm⟩ : ∃ m : Nat, m = 1074 := ⟨_, rfl⟩
 rw [← hm]
 have h4 : 2 * (d * 2 ^ m) < 2 ^ (b + (m + 1)) := by
  rw [Nat.pow_add, Nat.pow_succ, Nat.mul_comm (2 ^ m) 2, Nat.mul_left_comm]
  exact Nat.mul_lt_mul_of_pos_right dlt (by have := Nat.two_pow_pos m; omega)
 have h5 : 2 ^ (b + (m + 1)) ≤ 2 ^ (-1 - lp p).toNat := Nat.pow_le_pow_right (by decide) (by omega)
 exact Nat.lt_of_lt_of_le h4 (Nat.le_trans h5 h3)
theorem low_bound {x n U T N s8 : Nat} (hT : 0 < T) (x0 : 9223372036854775808 ≤ x) (big : 170141183460469231731687303715884105728 * T ≤ N) (hs : s8 = 340282366920938463463374607431768211456 * 256) (hr : x * N * U = 4 * n * (T * s8)) : 4503599627370496 * U ≤ n := by
 have a1 : 9223372036854775808 * (170141183460469231731687303715884105728 * T) ≤ x * N := Nat.mul_le_mul x0 big
 have a2 : 9223372036854775808 * (170141183460469231731687303715884105728 * T) * U ≤ x * N * U := Nat.mul_le_mul_right _ a1
 rw [hr] at a2
 have a3 : (9223372036854775808 * 170141183460469231731687303715884105728 * U) * T ≤ (4 * n * s8) * T := by
  have e1 : (9223372036854775808 * 170141183460469231731687303715884105728 * U) * T = 9223372036854775808 * (170141183460469231731687303715884105728 * T) * U := by
   rw [Nat.mul_assoc _ U T, Nat.mul_comm U T, ← Nat.mul_assoc, ← Nat.mul_assoc]
  have e2 : (4 * n * s8) * T = 4 * n * (T * s8) := by rw [Nat.mul_assoc (4 * n), Nat.mul_comm _ T]
  rw [e1, e2]; exact a2
 have a4 := Nat.le_of_mul_le_mul_right a3 hT
 subst hs
 omega
theorem high_bound {x n U T N S : Nat} (hT : 0 < T) (x1 : x < 18446744073709551616) (a0 : N ≤ 339950059921992234495148655666698125312 * T) (hs : 340282366920938463463374607431768211456 * 256 ≤ S) (hr : x * N * U = 4 * n * (T * S)) : n + 17592186044416 * U ≤ 18014398509481984 * U := by
 have a1 : x * N ≤ 18446744073709551616 * (339950059921992234495148655666698125312 * T) := Nat.mul_le_mul (Nat.le_of_lt x1) a0
 have a2 : x * N * U ≤ 18446744073709551616 * (339950059921992234495148655666698125312 * T) * U := Nat.mul_le_mul_right _ a1
 rw [hr] at a2
 have a3 : (4 * n * S) * T ≤ (18446744073709551616 * 339950059921992234495148655666698125312 * U) * T := by
  have e2 : (4 * n * S) * T = 4 * n * (T * S) := by rw [Nat.mul_assoc (4 * n), Nat.mul_comm _ T]
  have e1 : (18446744073709551616 * 339950059921992234495148655666698125312 * U) * T = 18446744073709551616 * (339950059921992234495148655666698125312 * T) * U := by
   rw [Nat.mul_assoc _ U T, Nat.mul_comm U T, ← Nat.mul_assoc, ← Nat.mul_assoc]
  rw [e1, e2]; exact a2
 have a4 := Nat.le_of_mul_le_mul_right a3 hT
 have a5 : 4 * n * (340282366920938463463374607431768211456 * 256) ≤ 4 * n * S := Nat.mul_le_mul_left _ hs
 omega
end Go.Proofs.YtjapgpmoojfhnaaGreatDoor.Fl
