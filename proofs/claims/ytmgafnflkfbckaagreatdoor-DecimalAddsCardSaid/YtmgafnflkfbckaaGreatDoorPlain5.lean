/- The value of a number, in units of a power of ten; normal numbers of one value are equal. -/
import Derived.Test.YtmgafnflkfbckaaGreatDoorPlain2
namespace Go.Proofs.YtmgafnflkfbckaaGreatDoor.Dc
open Go Go.Lib

/-- The number that digits (or other places) stand for. -/
def num : List Nat → Nat
  | [] => 0
  | x :: l => x * 10 ^ l.length + num l
theorem num_append (a b : List Nat) : num (a ++ b) = num a * 10 ^ b.length + num b := by
  induction a with
  | nil => simp [num]
  | cons x a ih =>
    simp only [List.cons_append, num, ih, List.length_append, Nat.pow_add]
    grind
theorem num_zeros (k : Nat) : num (List.replicate k 0) = 0 := by
  induction k with
  | zero => rfl
  | succ k ih => rw [List.replicate_succ, num, ih]; simp
theorem num_lt {l : List Nat} (h : Digs l) : num l < 10 ^ l.length := by
  induction l with
  | nil => simp [num]
  | cons x l ih =>
    have h1 := ih fun y hy => h y (by simp [hy])
    have hx := h x (by simp)
    rw [num, List.length_cons, Nat.pow_succ]
    have h2 : x * 10 ^ l.length ≤ 9 * 10 ^ l.length := Nat.mul_le_mul_right _ (by omega)
    omega
theorem num_lead (l : List Nat) : num (lead l) = num l := by
  induction l with
  | nil => rfl
  | cons x l ih =>
    rw [lead]
    split
    · rename_i h; subst h; rw [ih, num]; simp
    · rfl
theorem core_split (l : List Nat) : l = core l ++ List.replicate (trail l) 0 := by
  induction hn : l.length generalizing l with
  | zero =>
    have : l = [] := List.length_eq_zero_iff.1 hn
    subst this; rfl
  | succ n ih =>
    have hne : l ≠ [] := by intro e; subst e; simp at hn
    obtain ⟨l', y, rfl⟩ : ∃ l' y, l = l' ++ [y] := ⟨l.dropLast, l.getLast hne, (List.dropLast_concat_getLast hne).symm⟩
    by_cases hy : y = 0
    · subst hy
      have e : core (l' ++ [0]) = core l' := by
        have := trail_le l'
        rw [core, core, trail_snoc_zero, List.length_append, List.length_singleton, show l'.length + 1 - (trail l' + 1) = l'.length - trail l' by omega, List.take_append_of_le_length (by omega)]
      rw [e, trail_snoc_zero, List.replicate_succ', ← List.append_assoc, ← ih l' (by simpa using hn)]
    · rw [core_eq (trail_snoc hy), trail_snoc hy]; simp
theorem num_core (l : List Nat) : num (core l) * 10 ^ trail l = num l := by
  have h : num l = num (core l ++ List.replicate (trail l) 0) := congrArg num (core_split l)
  rw [h, num_append, num_zeros, List.length_replicate]; simp

def sgn (b : Bool) (n : Int) : Int := if b then -n else n
theorem sgn_zero (b : Bool) : sgn b 0 = 0 := by cases b <;> rfl
theorem sgn_mul (b : Bool) (n m : Int) : sgn b n * m = sgn b (n * m) := by cases b <;> simp [sgn, Int.neg_mul]
/-- The value in units of 10^f. -/
def V (x : D) (f : Int) : Int := sgn x.neg (num x.c * (10 : Int) ^ (x.e - f).toNat)
def Under (f : Int) (x : D) : Prop := x.c = [] ∨ f ≤ x.e
theorem V_nil {x : D} (h : x.c = []) (f : Int) : V x f = 0 := by rw [V, h, num]; simp [sgn_zero]
theorem norm_val {neg : Bool} {l : List Nat} {e f : Int} (h : f ≤ e) : V (norm neg l e) f = sgn neg (num l * (10 : Int) ^ (e - f).toNat) ∧ Under f (norm neg l e) := by
  rw [norm]
  by_cases hl : lead l = []
  · rw [if_pos hl]
    have h0 : num l = 0 := by rw [← num_lead, hl]; rfl
    exact ⟨by rw [V_nil rfl, h0]; simp [sgn_zero], Or.inl rfl⟩
  · rw [if_neg hl]
    refine ⟨?_, Or.inr (by show f ≤ e + _; omega)⟩
    rw [V, ← num_lead l, ← num_core (lead l)]
    simp only
    rw [show (e + (trail (lead l) : Int) - f).toNat = trail (lead l) + (e - f).toNat by omega, Int.pow_add]
    congr 1
    rw [← Int.mul_assoc]
    simp
theorem V_shift {x : D} {f g : Int} (h : g ≤ f) (hu : Under f x) : V x g = V x f * (10 : Int) ^ (f - g).toNat := by
  rcases hu with hu | hu
  · rw [V_nil hu, V_nil hu]; simp
  · rw [V, V, sgn_mul, show (x.e - g).toNat = (x.e - f).toNat + (f - g).toNat by omega, Int.pow_add, Int.mul_assoc]
theorem Under.le {x : D} {f g : Int} (h : Under f x) (hg : g ≤ f) : Under g x := by
  rcases h with h | h
  · exact Or.inl h
  · exact Or.inr (by omega)
theorem num_inj : ∀ {a b : List Nat}, Digs a → Digs b → a.length = b.length → num a = num b → a = b
  | [], [], _, _, _, _ => rfl
  | [], _ :: _, _, _, h, _ => by simp at h
  | _ :: _, [], _, _, h, _ => by simp at h
  | x :: a, y :: b, ha, hb, hl, h => by
    have hl' : a.length = b.length := by simpa using hl
    have h1 := num_lt (l := a) fun z hz => ha z (by simp [hz])
    have h2 := num_lt (l := b) fun z hz => hb z (by simp [hz])
    rw [num, num, hl'] at h
    rw [hl'] at h1
    have hP : 0 < 10 ^ b.length := Nat.pow_pos (by omega)
    have hxy : x = y := by
      have e1 : (x * 10 ^ b.length + num a) / 10 ^ b.length = x := by
        rw [Nat.mul_comm, Nat.mul_add_div hP, Nat.div_eq_of_lt h1]; simp
      have e2 : (y * 10 ^ b.length + num b) / 10 ^ b.length = y := by
        rw [Nat.mul_comm, Nat.mul_add_div hP, Nat.div_eq_of_lt h2]; simp
      rw [← e1, h, e2]
    subst hxy
    rw [num_inj (fun z hz => ha z (by simp [hz])) (fun z hz => hb z (by simp [hz])) hl' (by omega)]
theorem num_ge {l : List Nat} (h : ∀ u, l.head? = some u → u ≠ 0) (hne : l ≠ []) : 10 ^ (l.length - 1) ≤ num l := by
  cases l with
  | nil => exact absurd rfl hne
  | cons x l =>
    have hx : x ≠ 0 := h x rfl
    rw [num, List.length_cons, Nat.add_sub_cancel]
    have : 1 * 10 ^ l.length ≤ x * 10 ^ l.length := Nat.mul_le_mul_right _ (by omega)
    omega
theorem num_len {a b : List Nat} (ha : Digs a) (hb : ∀ u, b.head? = some u → u ≠ 0) (hne : b ≠ []) (h : num b ≤ num a) : b.length ≤ a.length := by
  have h1 := num_lt ha
  have h2 := num_ge hb hne
  have h3 : 10 ^ (b.length - 1) < 10 ^ a.length := by omega
  have h4 := (Nat.pow_lt_pow_iff_right (a := 10) (by omega)).1 h3
  omega
theorem num_last {l : List Nat} (hd : Digs l) (h : ∀ u, l.getLast? = some u → u ≠ 0) (hne : l ≠ []) : num l % 10 ≠ 0 := by
  obtain ⟨l', x, rfl⟩ : ∃ l' x, l = l' ++ [x] := ⟨l.dropLast, l.getLast hne, (List.dropLast_concat_getLast hne).symm⟩
  have hx := h x (by simp)
  have hx2 := hd x (by simp)
  rw [num_append, num]
  simp [num]
  omega
theorem sgn_inj {g g' : Bool} {p q : Int} (hp : 0 < p) (hq : 0 < q) (h : sgn g p = sgn g' q) : g = g' ∧ p = q := by
  cases g <;> cases g' <;> simp [sgn] at h ⊢ <;> omega
theorem V_pos {x : D} (h : Normal x) (hc : x.c ≠ []) (f : Int) : 0 < (num x.c : Int) * (10 : Int) ^ (x.e - f).toNat := by
  have h1 := num_ge h.2.2.1 hc
  have h2 : 0 < 10 ^ (x.c.length - 1) := Nat.pow_pos (by omega)
  exact Int.mul_pos (by omega) (Int.pow_pos (by omega))
theorem V_ne {x : D} (h : Normal x) (hc : x.c ≠ []) (f : Int) : V x f ≠ 0 := by
  have := V_pos h hc f
  rw [V, sgn]
  split <;> omega
theorem pow_part {a b : Nat} {p q : Nat} (h : p * 10 ^ a = q * 10 ^ b) (hp : p % 10 ≠ 0) : b ≤ a := by
  refine Nat.le_of_not_lt fun hlt => hp ?_
  have e : 10 ^ b = 10 ^ (b - a - 1) * 10 * 10 ^ a := by
    rw [← Nat.pow_succ, ← Nat.pow_add]; congr 1; omega
  rw [e, ← Nat.mul_assoc] at h
  have := Nat.eq_of_mul_eq_mul_right (Nat.pow_pos (by omega)) h
  rw [this, ← Nat.mul_assoc]; omega
theorem V_inj {x y : D} {f : Int} (hx : Normal x) (hy : Normal y) (ux : Under f x) (uy : Under f y) (h : V x f = V y f) : x = y := by
  by_cases hcx : x.c = []
  · by_cases hcy : y.c = []
    · obtain ⟨a, b⟩ := hx.2.1 hcx
      obtain ⟨a', b'⟩ := hy.2.1 hcy
      cases x; cases y; simp_all
    · exact absurd (by rw [← h, V_nil hcx]) (V_ne hy hcy f)
  · by_cases hcy : y.c = []
    · exact absurd (by rw [h, V_nil hcy]) (V_ne hx hcx f)
    · obtain ⟨hg, hp⟩ := sgn_inj (V_pos hx hcx f) (V_pos hy hcy f) h
      have hp' : num x.c * 10 ^ (x.e - f).toNat = num y.c * 10 ^ (y.e - f).toNat := by exact_mod_cast hp
      have l1 := pow_part hp' (num_last hx.1 hx.2.2.2 hcx)
      have l2 := pow_part hp'.symm (num_last hy.1 hy.2.2.2 hcy)
      have hxf : f ≤ x.e := ux.resolve_left hcx
      have hyf : f ≤ y.e := uy.resolve_left hcy
      have he : x.e = y.e := by omega
      rw [he] at hp'
      have hn := Nat.eq_of_mul_eq_mul_right (Nat.pow_pos (by omega)) hp'
      have h1 := num_len hx.1 hy.2.2.1 hcy (by omega)
      have h2 := num_len hy.1 hx.2.2.1 hcx (by omega)
      have hc := num_inj hx.1 hy.1 (by omega) hn
      cases x; cases y; simp_all
end Go.Proofs.YtmgafnflkfbckaaGreatDoor.Dc
