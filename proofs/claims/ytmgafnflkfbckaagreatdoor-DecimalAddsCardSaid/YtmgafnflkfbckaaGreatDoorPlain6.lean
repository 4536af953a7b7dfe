/- Sums and comparisons have the values that they should. -/
import Derived.Test.YtmgafnflkfbckaaGreatDoorPlain5
import Derived.Test.YtmgafnflkfbckaaGreatDoorWalkP
namespace Go.Proofs.YtmgafnflkfbckaaGreatDoor.Dc
open Go Go.Lib

theorem addStep_val {same : Bool} {x y : Nat} {c : Int} (hc : okC same c) (hx : x < 10) (hy : y < 10) :
    ((addStep same x y c).1 : Int) + 10 * (addStep same x y c).2 = x + c + (if same = true then 1 else -1) * y := by
  cases same with
  | true =>
    rw [okC, if_pos rfl] at hc
    simp only [addStep, if_true]
    omega
  | false =>
    rw [okC, if_neg (by simp)] at hc
    simp only [addStep, Bool.false_eq_true, if_false]
    split <;> simp only <;> omega
theorem addL_num {same : Bool} : ∀ {a b : List Nat}, Digs a → Digs b → a.length = b.length →
    (num (addL same a b).1 : Int) + (addL same a b).2 * (10 : Int) ^ a.length = num a + (if same = true then 1 else -1) * num b
  | [], [], _, _, _ => by simp [addL, num]
  | [], y :: b, _, _, h => by simp at h
  | x :: a, [], _, _, h => by simp at h
  | x :: a, y :: b, ha, hb, h => by
    have ha' : Digs a := fun z hz => ha z (by simp [hz])
    have hb' : Digs b := fun z hz => hb z (by simp [hz])
    have hl : a.length = b.length := by simpa using h
    obtain ⟨h1, _, h3⟩ := addL_ok (same := same) ha' hb' hl
    have ih := addL_num (same := same) ha' hb' hl
    have hs := addStep_val h1 (ha x (by simp)) (hb y (by simp))
    simp only [addL, num, h3, List.length_cons]
    generalize (addL same a b).2 = c at *
    generalize num (addL same a b).1 = R at *
    generalize (if same = true then (1 : Int) else -1) = s at *
    generalize (addStep same x y c).1 = d at *
    generalize (addStep same x y c).2 = c' at *
    rw [← hl]
    simp only [Int.natCast_add, Int.natCast_mul, Int.natCast_pow, Int.cast_ofNat_Int]
    generalize num a = na at *
    generalize num b = nb at *
    rw [Int.pow_succ]
    generalize (10 : Int) ^ a.length = P at *
    grind
theorem al_num {c : List Nat} {k n : Nat} (h : c = [] ∨ c.length + k ≤ n) : num (al c k n) = num c * 10 ^ k := by
  rw [al]
  split
  · rename_i hc; subst hc; rw [num_zeros, num]; simp
  · rw [num_append, num_zeros, num_append, num_zeros]; simp

/-- The comparison of digits of one length. -/
def sizeL : List Nat → List Nat → Int
  | x :: a, y :: b => if x < y then -1 else if y < x then 1 else sizeL a b
  | _, _ => 0
def cmpN (a b : Nat) : Int := if a < b then -1 else if b < a then 1 else 0
theorem sizeL_num : ∀ {a b : List Nat}, Digs a → Digs b → a.length = b.length → sizeL a b = cmpN (num a) (num b)
  | [], [], _, _, _ => by simp [sizeL, cmpN, num]
  | [], y :: b, _, _, h => by simp at h
  | x :: a, [], _, _, h => by simp at h
  | x :: a, y :: b, ha, hb, h => by
    have ha' : Digs a := fun z hz => ha z (by simp [hz])
    have hb' : Digs b := fun z hz => hb z (by simp [hz])
    have hl : a.length = b.length := by simpa using h
    have ih := sizeL_num ha' hb' hl
    have h1 := num_lt ha'
    have h2 := num_lt hb'
    rw [sizeL, cmpN, num, num, hl]
    rw [hl] at h1
    have hm : ∀ u v : Nat, u < v → u * 10 ^ b.length + 10 ^ b.length ≤ v * 10 ^ b.length := by
      intro u v huv
      have := Nat.mul_le_mul_right (10 ^ b.length) (show u + 1 ≤ v by omega)
      rw [Nat.add_mul, Nat.one_mul] at this
      exact this
    by_cases c1 : x < y
    · have := hm x y c1
      rw [if_pos c1, if_pos (by omega)]
    · by_cases c2 : y < x
      · have := hm y x c2
        rw [if_neg c1, if_pos c2, if_neg (by omega), if_pos (by omega)]
      · obtain rfl : x = y := by omega
        rw [if_neg c1, if_neg c1, ih, cmpN]
        split
        · rw [if_pos (by omega)]
        · split
          · rw [if_neg (by omega), if_pos (by omega)]
          · rw [if_neg (by omega), if_neg (by omega)]

theorem diffN_shift (x y : Nat) (a b : List Nat) : ∀ f i, diffN (x :: a) (y :: b) (i + 1) f = diffN a b i f := by
  intro f
  induction f with
  | zero => intro i; rfl
  | succ f ih => intro i; simp [diffN, ih]
theorem diffN_nil : ∀ f i, diffN [] [] i f = 0 := by
  intro f
  induction f with
  | zero => intro i; rfl
  | succ f ih => intro i; simp [diffN, ih]
theorem diffN_left (a : List Nat) : ∀ f i, diffN a [] i f = diffN a [] i f := fun _ _ => rfl
theorem getD_zeros (a : List Nat) (k i : Nat) : (a ++ List.replicate k 0).getD i 0 = a.getD i 0 := by
  simp only [List.getD_eq_getElem?_getD]
  by_cases h : i < a.length
  · rw [List.getElem?_append_left h]
  · rw [List.getElem?_append_right (by omega), List.getElem?_eq_none (l := a) (by omega), List.getElem?_replicate]
    split <;> rfl
theorem diffN_pad (a b : List Nat) (k k' : Nat) : ∀ f i, diffN (a ++ List.replicate k 0) (b ++ List.replicate k' 0) i f = diffN a b i f := by
  intro f
  induction f with
  | zero => intro i; rfl
  | succ f ih => intro i; rw [diffN, diffN, getD_zeros, getD_zeros, ih]
theorem diffN_size : ∀ {a b : List Nat}, a.length = b.length → (diffN a b 0 a.length < 0 ↔ sizeL a b = -1) ∧ (diffN a b 0 a.length = 0 ↔ sizeL a b = 0)
  | [], [], _ => by simp [diffN, sizeL]
  | [], y :: b, h => by simp at h
  | x :: a, [], h => by simp at h
  | x :: a, y :: b, h => by
    have ih := diffN_size (a := a) (b := b) (by simpa using h)
    rw [List.length_cons, diffN, diffN_shift, sizeL]
    simp only [List.getD_cons_zero]
    by_cases c1 : x < y
    · rw [if_pos (by omega), if_pos c1]; omega
    · by_cases c2 : y < x
      · rw [if_pos (by omega), if_neg c1, if_pos c2]; omega
      · rw [if_neg (by omega), if_neg c1, if_neg c2]; exact ih
theorem cmpN_lt {a b : Nat} : cmpN a b = -1 ↔ a < b := by
  unfold cmpN; split
  · simp [*]
  · split <;> simp <;> omega
theorem cmpN_eq {a b : Nat} : cmpN a b = 0 ↔ a = b := by
  unfold cmpN; split
  · simp; omega
  · split <;> simp <;> omega
theorem digs_zeros (k : Nat) : Digs (List.replicate k 0) := fun x hx => by rw [(List.mem_replicate.1 hx).2]; omega
theorem digs_append {a b : List Nat} (ha : Digs a) (hb : Digs b) : Digs (a ++ b) := fun x hx => (List.mem_append.1 hx).elim (ha x) (hb x)

/-- The magnitudes of two numbers in units of a power below both. -/
def mg (l : List Nat) (e f : Int) : Nat := num l * 10 ^ (e - f).toNat
theorem mg_nil (e f : Int) : mg [] e f = 0 := by simp [mg, num]
def Heads (l : List Nat) : Prop := ∀ u, l.head? = some u → u ≠ 0
theorem mg_pos {l : List Nat} (h : Heads l) (hne : l ≠ []) (e f : Int) : 0 < mg l e f := by
  have h1 := num_ge h hne
  have h2 : 0 < 10 ^ (l.length - 1) := Nat.pow_pos (by omega)
  exact Nat.mul_pos (by omega) (Nat.pow_pos (by omega))
theorem mg_lt {l : List Nat} (h : Digs l) {e f : Int} (hf : f ≤ e) : mg l e f < 10 ^ ((l.length : Int) + e - f).toNat := by
  rw [mg, show ((l.length : Int) + e - f).toNat = l.length + (e - f).toNat by omega, Nat.pow_add]
  exact Nat.mul_lt_mul_of_pos_right (num_lt h) (Nat.pow_pos (by omega))
theorem mg_ge {l : List Nat} (h : Heads l) (hne : l ≠ []) {e f : Int} (hf : f ≤ e) : 10 ^ ((l.length : Int) + e - f - 1).toNat ≤ mg l e f := by
  have hl : 0 < l.length := List.length_pos_iff.2 hne
  rw [mg, show ((l.length : Int) + e - f - 1).toNat = (l.length - 1) + (e - f).toNat by omega, Nat.pow_add]
  exact Nat.mul_le_mul_right _ (num_ge h hne)
theorem mag_less {a b : List Nat} {e f m : Int} (ha : Digs a) (hb : Heads b) (hnb : b ≠ []) (he : m ≤ e) (hf : m ≤ f) (h : (a.length : Int) + e < b.length + f) : mg a e m < mg b f m := by
  have h1 := mg_lt ha he
  have h2 := mg_ge hb hnb hf
  have hl : 0 < b.length := List.length_pos_iff.2 hnb
  have h3 : 10 ^ ((a.length : Int) + e - m).toNat ≤ 10 ^ ((b.length : Int) + f - m - 1).toNat := Nat.pow_le_pow_right (by omega) (by omega)
  omega
/-- What magnitudes tells. -/
theorem magN_is {a b : List Nat} {e f m : Int} (ha : Digs a) (hb : Digs b) (ha' : Heads a) (hb' : Heads b) (he : a = [] ∨ m ≤ e) (hf : b = [] ∨ m ≤ f) :
    (magN a e b f < 0 ↔ mg a e m < mg b f m) ∧ (magN a e b f = 0 ↔ mg a e m = mg b f m) := by
  rw [magN]
  by_cases h0 : a.length = 0 ∨ b.length = 0
  · rw [if_pos h0]
    by_cases hna : a = []
    · subst hna
      by_cases hnb : b = []
      · subst hnb; simp [mg_nil]
      · have hl : 0 < b.length := List.length_pos_iff.2 hnb
        have := mg_pos hb' hnb f m
        rw [mg_nil, List.length_nil]
        constructor <;> constructor <;> intro <;> omega
    · have hl : 0 < a.length := List.length_pos_iff.2 hna
      obtain rfl : b = [] := List.length_eq_zero_iff.1 (by omega)
      have := mg_pos ha' hna e m
      rw [mg_nil, List.length_nil]
      constructor <;> constructor <;> intro <;> omega
  · rw [if_neg h0]
    have hna : a ≠ [] := by intro h; subst h; simp at h0
    have hnb : b ≠ [] := by intro h; subst h; simp at h0
    have he := he.resolve_left hna
    have hf := hf.resolve_left hnb
    by_cases h1 : (a.length : Int) + e - b.length - f ≠ 0
    · rw [if_pos h1]
      by_cases h2 : (a.length : Int) + e < b.length + f
      · have := mag_less (m := m) ha hb' hnb he hf h2
        omega
      · have := mag_less (m := m) hb ha' hna hf he (by omega)
        omega
    · rw [if_neg h1]
      obtain ⟨N, hN⟩ : ∃ N, max a.length b.length = N := ⟨_, rfl⟩
      rw [hN]
      obtain ⟨k, hk⟩ : ∃ k, N - a.length = k := ⟨_, rfl⟩
      obtain ⟨k', hk'⟩ : ∃ k', N - b.length = k' := ⟨_, rfl⟩
      have hA : (a ++ List.replicate k 0).length = N := by simp; omega
      have hB : (b ++ List.replicate k' 0).length = N := by simp; omega
      have hs := diffN_size (a := a ++ List.replicate k 0) (b := b ++ List.replicate k' 0) (by omega)
      rw [hA, diffN_pad] at hs
      rw [sizeL_num (digs_append ha (digs_zeros _)) (digs_append hb (digs_zeros _)) (by omega), cmpN_lt, cmpN_eq, num_append, num_append, num_zeros, num_zeros] at hs
      simp only [List.length_replicate, Nat.add_zero] at hs
      obtain ⟨M, hM⟩ : ∃ M : Nat, (e - m).toNat - k = M := ⟨_, rfl⟩
      have h3 : mg a e m = num a * 10 ^ k * 10 ^ M := by rw [mg, Nat.mul_assoc, ← Nat.pow_add]; congr 2; omega
      have h4 : mg b f m = num b * 10 ^ k' * 10 ^ M := by rw [mg, Nat.mul_assoc, ← Nat.pow_add]; congr 2; omega
      rw [h3, h4, hs.1, hs.2]
      have hP : 0 < 10 ^ M := Nat.pow_pos (by omega)
      exact ⟨(Nat.mul_lt_mul_right hP).symm, ⟨fun h => by rw [h], fun h => Nat.eq_of_mul_eq_mul_right hP h⟩⟩
theorem V_mg (x : D) (f : Int) : V x f = sgn x.neg (mg x.c x.e f : Int) := by rw [V, mg]; simp

/-- Digits added or subtracted, the first not the smaller, with room at the front. -/
theorem addL_exact {g g' : Bool} {a b : List Nat} {N : Nat} (ha : Digs a) (hb : Digs b) (la : a.length = N + 1) (lb : b.length = N + 1) (ba : num a < 10 ^ N) (bb : num b < 10 ^ N) (hs : g = g' ∨ num b ≤ num a) :
    sgn g (num (addL (g == g') a b).1 : Int) = sgn g (num a : Int) + sgn g' (num b : Int) := by
  obtain ⟨h1, h2, h3⟩ := addL_ok (same := (g == g')) ha hb (by omega)
  have h4 := addL_num (same := (g == g')) ha hb (by omega)
  have h5 := num_lt h2
  rw [h3, la] at h5
  rw [la] at h4
  generalize (addL (g == g') a b).2 = c at *
  generalize num (addL (g == g') a b).1 = R at *
  have h6 : (10 : Nat) ^ (N + 1) = 10 * 10 ^ N := by rw [Nat.pow_succ]; omega
  have h7 : (10 : Int) ^ (N + 1) = ((10 * 10 ^ N : Nat) : Int) := by rw [← h6]; simp
  rw [h6] at h5
  rw [h7] at h4
  generalize (10 : Nat) ^ N = P at *
  by_cases hg : g = g'
  · subst hg
    have hb2 : (g == g) = true := by cases g <;> rfl
    rw [hb2] at h1 h4
    rw [okC, if_pos rfl] at h1
    rw [if_pos rfl] at h4
    have hc : c = 0 ∨ c = 1 := by omega
    rcases hc with rfl | rfl
    · cases g <;> simp [sgn] <;> omega
    · omega
  · have hle := hs.resolve_left hg
    have hb2 : (g == g') = false := by cases g <;> cases g' <;> simp_all
    rw [hb2] at h1 h4
    rw [okC, if_neg (by simp)] at h1
    rw [if_neg (by simp)] at h4
    have hc : c = 0 ∨ c = -1 := by omega
    rcases hc with rfl | rfl
    · cases g <;> cases g' <;> simp [sgn] at hg ⊢ <;> omega
    · omega
theorem sumO_val {g g' : Bool} {l l' : List Nat} {e e' f : Int} (hd : Digs l) (hd' : Digs l') (hf : f ≤ e) (hf' : f ≤ e') (hs : g = g' ∨ mg l' e' (min e e') ≤ mg l e (min e e')) :
    V (sumO g l e g' l' e') f = sgn g (mg l e f : Int) + sgn g' (mg l' e' f : Int) ∧ Under f (sumO g l e g' l' e') := by
  rw [sumO]
  obtain ⟨E, hE⟩ : ∃ E, min e e' = E := ⟨_, rfl⟩
  rw [hE] at hs ⊢
  obtain ⟨N, hN⟩ : ∃ N, (max ((l.length : Int) + e) ((l'.length : Int) + e') - E).toNat = N := ⟨_, rfl⟩
  rw [show (max ((l.length : Int) + e) ((l'.length : Int) + e') - E + 1).toNat = N + 1 by omega]
  have k1 : l = [] ∨ l.length + (e - E).toNat ≤ N + 1 := by right; omega
  have k2 : l' = [] ∨ l'.length + (e' - E).toNat ≤ N + 1 := by right; omega
  have a1 : num (al l (e - E).toNat (N + 1)) = mg l e E := al_num k1
  have a2 : num (al l' (e' - E).toNat (N + 1)) = mg l' e' E := al_num k2
  have b1 := mg_lt (f := E) hd (show E ≤ e by omega)
  have b2 := mg_lt (f := E) hd' (show E ≤ e' by omega)
  have p1 : 10 ^ ((l.length : Int) + e - E).toNat ≤ 10 ^ N := Nat.pow_le_pow_right (by omega) (by omega)
  have p2 : 10 ^ ((l'.length : Int) + e' - E).toNat ≤ 10 ^ N := Nat.pow_le_pow_right (by omega) (by omega)
  have hx := addL_exact (g := g) (g' := g') (al_digs (k := (e - E).toNat) (n := N + 1) hd) (al_digs (k := (e' - E).toNat) (n := N + 1) hd') (al_len k1) (al_len k2) (by rw [a1]; omega) (by rw [a2]; omega) (by rw [a1, a2]; exact hs)
  obtain ⟨h1, h2⟩ := norm_val (neg := g) (l := (addL (g == g') (al l (e - E).toNat (N + 1)) (al l' (e' - E).toNat (N + 1))).1) (e := E) (f := f) (by omega)
  refine ⟨?_, h2⟩
  rw [h1, ← sgn_mul, hx, a1, a2, Int.add_mul, sgn_mul, sgn_mul]
  have m1 : mg l e f = mg l e E * 10 ^ (E - f).toNat := by rw [mg, mg, Nat.mul_assoc, ← Nat.pow_add]; congr 2; omega
  have m2 : mg l' e' f = mg l' e' E * 10 ^ (E - f).toNat := by rw [mg, mg, Nat.mul_assoc, ← Nat.pow_add]; congr 2; omega
  rw [m1, m2]
  simp
theorem normal_heads {x : D} (h : Normal x) : Heads x.c := h.2.2.1
/-- The value of a sum. -/
theorem sumP_val {x y : D} {f : Int} (hx : Normal x) (hy : Normal y) (ux : Under f x) (uy : Under f y) : V (sumP x y) f = V x f + V y f ∧ Under f (sumP x y) := by
  rw [sumP]
  by_cases h1 : x.c = []
  · rw [if_pos h1, V_nil h1]; exact ⟨by omega, uy⟩
  · rw [if_neg h1]
    by_cases h2 : y.c = []
    · rw [if_pos h2, V_nil h2]; exact ⟨by omega, ux⟩
    · rw [if_neg h2]
      have fx := ux.resolve_left h1
      have fy := uy.resolve_left h2
      have hm := magN_is (e := x.e) (f := y.e) (m := min x.e y.e) hx.1 hy.1 (normal_heads hx) (normal_heads hy) (Or.inr (by omega)) (Or.inr (by omega))
      rw [V_mg x, V_mg y]
      by_cases h3 : (x.neg != y.neg && decide (magN x.c x.e y.c y.e < 0)) = true
      · rw [if_pos h3]
        have h4 : magN x.c x.e y.c y.e < 0 := by simp at h3; exact h3.2
        have := hm.1.1 h4
        rw [Int.min_comm] at this
        rw [Int.add_comm]
        exact sumO_val hy.1 hx.1 fy fx (Or.inr (by omega))
      · rw [if_neg h3]
        refine sumO_val hx.1 hy.1 fx fy ?_
        by_cases hg : x.neg = y.neg
        · exact Or.inl hg
        · right
          have h4 : ¬ magN x.c x.e y.c y.e < 0 := by
            intro h; apply h3; simp [hg, h]
          rw [hm.1] at h4
          omega
end Go.Proofs.YtmgafnflkfbckaaGreatDoor.Dc
