/- The reference's sum and comparison, and the product, by their values. -/
import Derived.Test.YtmgafnflkfbckaaGreatDoorPlain6
namespace Go.Proofs.YtmgafnflkfbckaaGreatDoor.Dc
open Go Go.Lib

def padL (x : D) (e : Int) : List Nat := if x.c = [] then [] else x.c ++ List.replicate (x.e - e).toNat 0
def frontL (c : List Nat) (n : Nat) : List Nat := List.replicate (n - c.length) 0 ++ c
def alE (x y : D) : Int := min x.e y.e
def alN (x y : D) : Nat := max (padL x (alE x y)).length (padL y (alE x y)).length + 1
def alX (x y : D) : List Nat := frontL (padL x (alE x y)) (alN x y)
def alY (x y : D) : List Nat := frontL (padL y (alE x y)) (alN x y)
/-- The reference's Add. -/
def refAddP (x y : D) : D :=
  if (x.neg != y.neg) = true ∧ sizeL (alX x y) (alY x y) < 0 then norm y.neg (addL (x.neg == y.neg) (alY x y) (alX x y)).1 (alE x y) else norm x.neg (addL (x.neg == y.neg) (alX x y) (alY x y)).1 (alE x y)
/-- The reference's Cmp. -/
def refCmpP (x y : D) : Int :=
  if x.c = [] ∧ y.c = [] then 0 else if (x.neg != y.neg) = true then (if x.neg = true then -1 else 1) else if x.neg = true then sizeL (alY x y) (alX x y) else sizeL (alX x y) (alY x y)
/-- The program's comparison. -/
def sg (n : Int) : Int := if n < 0 then -1 else if 0 < n then 1 else 0
def cmpP (x y : D) : Int :=
  if (x.neg != y.neg) = true then (if x.neg = true then -1 else 1) else if x.neg = true then -(sg (magN x.c x.e y.c y.e)) else sg (magN x.c x.e y.c y.e)
def cmpI (a b : Int) : Int := if a < b then -1 else if b < a then 1 else 0

theorem padL_digs {x : D} (h : Digs x.c) (e : Int) : Digs (padL x e) := by
  rw [padL]; split
  · intro y hy; simp at hy
  · exact digs_append h (digs_zeros _)
theorem padL_num (x : D) (e : Int) : num (padL x e) = mg x.c x.e e := by
  rw [padL]; split
  · rename_i h; rw [h, mg_nil]; rfl
  · rw [num_append, num_zeros, mg]; simp
theorem frontL_len {c : List Nat} {n : Nat} (h : c.length ≤ n) : (frontL c n).length = n := by simp [frontL]; omega
theorem frontL_num (c : List Nat) (n : Nat) : num (frontL c n) = num c := by rw [frontL, num_append, num_zeros]; simp
theorem frontL_digs {c : List Nat} (h : Digs c) (n : Nat) : Digs (frontL c n) := digs_append (digs_zeros _) h
theorem al_facts {x y : D} (hx : Digs x.c) (hy : Digs y.c) : ∃ N, (alX x y).length = N + 1 ∧ (alY x y).length = N + 1 ∧ Digs (alX x y) ∧ Digs (alY x y) ∧ num (alX x y) = mg x.c x.e (alE x y) ∧ num (alY x y) = mg y.c y.e (alE x y) ∧ num (alX x y) < 10 ^ N ∧ num (alY x y) < 10 ^ N := by
  refine ⟨max (padL x (alE x y)).length (padL y (alE x y)).length, frontL_len (by rw [alN]; omega), frontL_len (by rw [alN]; omega), frontL_digs (padL_digs hx _) _, frontL_digs (padL_digs hy _) _, by rw [alX, frontL_num, padL_num], by rw [alY, frontL_num, padL_num], ?_, ?_⟩
  · rw [alX, frontL_num]
    have h1 := num_lt (padL_digs hx (alE x y))
    have h2 : 10 ^ (padL x (alE x y)).length ≤ 10 ^ (max (padL x (alE x y)).length (padL y (alE x y)).length) := Nat.pow_le_pow_right (by omega) (by omega)
    omega
  · rw [alY, frontL_num]
    have h1 := num_lt (padL_digs hy (alE x y))
    have h2 : 10 ^ (padL y (alE x y)).length ≤ 10 ^ (max (padL x (alE x y)).length (padL y (alE x y)).length) := Nat.pow_le_pow_right (by omega) (by omega)
    omega
theorem sizeL_al {x y : D} (hx : Digs x.c) (hy : Digs y.c) : sizeL (alX x y) (alY x y) = cmpN (mg x.c x.e (alE x y)) (mg y.c y.e (alE x y)) ∧ sizeL (alY x y) (alX x y) = cmpN (mg y.c y.e (alE x y)) (mg x.c x.e (alE x y)) := by
  obtain ⟨N, l1, l2, d1, d2, n1, n2, _⟩ := al_facts hx hy
  rw [sizeL_num d1 d2 (by omega), sizeL_num d2 d1 (by omega), n1, n2]; exact ⟨rfl, rfl⟩
theorem beq_comm (a b : Bool) : (a == b) = (b == a) := by cases a <;> cases b <;> rfl
theorem refAddP_val {x y : D} (hx : Digs x.c) (hy : Digs y.c) : V (refAddP x y) (alE x y) = V x (alE x y) + V y (alE x y) ∧ Under (alE x y) (refAddP x y) ∧ Normal (refAddP x y) := by
  obtain ⟨N, l1, l2, d1, d2, n1, n2, b1, b2⟩ := al_facts hx hy
  rw [V_mg x, V_mg y, ← n1, ← n2, refAddP]
  by_cases h : (x.neg != y.neg) = true ∧ sizeL (alX x y) (alY x y) < 0
  · rw [if_pos h]
    have hlt : num (alX x y) < num (alY x y) := by
      have := h.2
      rw [sizeL_num d1 d2 (by omega)] at this
      unfold cmpN at this
      split at this
      · assumption
      · split at this <;> omega
    have ha := addL_exact (g := y.neg) (g' := x.neg) d2 d1 l2 l1 b2 b1 (Or.inr (by omega))
    rw [beq_comm y.neg x.neg] at ha
    obtain ⟨h1, h2⟩ := norm_val (neg := y.neg) (l := (addL (x.neg == y.neg) (alY x y) (alX x y)).1) (e := alE x y) (f := alE x y) (by omega)
    refine ⟨?_, h2, norm_normal (addL_ok d2 d1 (by omega)).2.1⟩
    rw [h1, Int.sub_self, Int.toNat_zero, Int.pow_zero, Int.mul_one, ha, Int.add_comm]
  · rw [if_neg h]
    have hge : x.neg = y.neg ∨ num (alY x y) ≤ num (alX x y) := by
      by_cases hg : x.neg = y.neg
      · exact Or.inl hg
      · right
        have h3 : ¬ sizeL (alX x y) (alY x y) < 0 := fun h4 => h ⟨by simpa using hg, h4⟩
        rw [sizeL_num d1 d2 (by omega)] at h3
        refine Nat.le_of_not_lt fun h4 => h3 ?_
        rw [cmpN, if_pos h4]; omega
    have ha := addL_exact (g := x.neg) (g' := y.neg) d1 d2 l1 l2 b1 b2 hge
    obtain ⟨h1, h2⟩ := norm_val (neg := x.neg) (l := (addL (x.neg == y.neg) (alX x y) (alY x y)).1) (e := alE x y) (f := alE x y) (by omega)
    refine ⟨?_, h2, norm_normal (addL_ok d1 d2 (by omega)).2.1⟩
    rw [h1, Int.sub_self, Int.toNat_zero, Int.pow_zero, Int.mul_one, ha]
theorem under_al (x y : D) : Under (alE x y) x ∧ Under (alE x y) y := ⟨Or.inr (by rw [alE]; omega), Or.inr (by rw [alE]; omega)⟩
theorem sumO_normal {g g' : Bool} {l l' : List Nat} {e e' : Int} (hd : Digs l) (hd' : Digs l') : Normal (sumO g l e g' l' e') := by
  rw [sumO]
  refine norm_normal (addL_ok (al_digs hd) (al_digs hd') ?_).2.1
  rw [al_len, al_len]
  · by_cases h : l' = []
    · exact Or.inl h
    · right; omega
  · by_cases h : l = []
    · exact Or.inl h
    · right; omega
theorem sumP_normal {x y : D} (hx : Normal x) (hy : Normal y) : Normal (sumP x y) := by
  rw [sumP]
  split
  · exact hy
  · split
    · exact hx
    · split
      · exact sumO_normal hy.1 hx.1
      · exact sumO_normal hx.1 hy.1
theorem refAddP_eq {x y : D} (hx : Normal x) (hy : Normal y) : refAddP x y = sumP x y := by
  obtain ⟨u1, u2⟩ := under_al x y
  obtain ⟨h1, h2, h3⟩ := refAddP_val hx.1 hy.1
  obtain ⟨h4, h5⟩ := sumP_val hx hy u1 u2
  exact V_inj h3 (sumP_normal hx hy) h2 h5 (by rw [h1, h4])

theorem sgn_lt (g : Bool) {p q : Int} : cmpI (sgn g p) (sgn g q) = if g = true then cmpI q p else cmpI p q := by
  cases g <;> simp [sgn, cmpI] <;> (split <;> split <;> first | rfl | omega)
theorem cmpI_nat (a b : Nat) : cmpI (a : Int) (b : Int) = cmpN a b := by
  unfold cmpI cmpN
  by_cases h1 : a < b
  · rw [if_pos (by omega), if_pos h1]
  · by_cases h2 : b < a
    · rw [if_neg (by omega), if_pos (by omega), if_neg h1, if_pos h2]
    · rw [if_neg (by omega), if_neg (by omega), if_neg h1, if_neg h2]
theorem neg_has {x : D} (h : Normal x) (hg : x.neg = true) : x.c ≠ [] := by
  intro hc
  have := (h.2.1 hc).1
  rw [hg] at this; cases this
theorem cmp_signs {x y : D} (hx : Normal x) (hy : Normal y) (f : Int) (h : (x.neg != y.neg) = true) : cmpI (V x f) (V y f) = if x.neg = true then -1 else 1 := by
  rw [V_mg, V_mg]
  cases hgx : x.neg with
  | true =>
    have hgy : y.neg = false := by rw [hgx] at h; cases hy2 : y.neg <;> simp_all
    have hp := mg_pos (normal_heads hx) (neg_has hx hgx) x.e f
    rw [hgy]
    simp only [sgn, cmpI]
    simp
    omega
  | false =>
    have hgy : y.neg = true := by rw [hgx] at h; cases hy2 : y.neg <;> simp_all
    have hp := mg_pos (normal_heads hy) (neg_has hy hgy) y.e f
    rw [hgy]
    simp only [sgn, cmpI]
    simp
    omega
/-- The program's comparison is that of the values. -/
theorem cmpP_val {x y : D} {f : Int} (hx : Normal x) (hy : Normal y) (ux : Under f x) (uy : Under f y) : cmpP x y = cmpI (V x f) (V y f) := by
  rw [cmpP]
  by_cases h : (x.neg != y.neg) = true
  · rw [if_pos h, cmp_signs hx hy f h]
  · rw [if_neg h]
    have hg : y.neg = x.neg := by cases h1 : x.neg <;> cases h2 : y.neg <;> simp_all
    obtain ⟨m1, m2⟩ := magN_is (m := f) hx.1 hy.1 (normal_heads hx) (normal_heads hy) ux uy
    have hs : sg (magN x.c x.e y.c y.e) = cmpN (mg x.c x.e f) (mg y.c y.e f) := by
      unfold sg cmpN
      by_cases c1 : mg x.c x.e f < mg y.c y.e f
      · rw [if_pos (m1.2 c1), if_pos c1]
      · by_cases c2 : mg x.c x.e f = mg y.c y.e f
        · have := m2.2 c2
          rw [if_neg (by omega), if_neg (by omega), if_neg c1, if_neg (by omega)]
        · have k1 : ¬ magN x.c x.e y.c y.e < 0 := fun h => c1 (m1.1 h)
          have k2 : ¬ magN x.c x.e y.c y.e = 0 := fun h => c2 (m2.1 h)
          rw [if_neg k1, if_pos (by omega), if_neg c1, if_pos (by omega)]
    rw [hs, V_mg, V_mg, hg, sgn_lt, cmpI_nat, cmpI_nat]
    split
    · unfold cmpN
      by_cases c1 : mg x.c x.e f < mg y.c y.e f
      · rw [if_pos c1, if_neg (by omega), if_pos c1]; rfl
      · rw [if_neg c1, if_neg c1]; split <;> rfl
    · rfl
theorem refCmpP_val {x y : D} (hx : Normal x) (hy : Normal y) : refCmpP x y = cmpI (V x (alE x y)) (V y (alE x y)) := by
  obtain ⟨s1, s2⟩ := sizeL_al hx.1 hy.1
  rw [refCmpP]
  by_cases h0 : x.c = [] ∧ y.c = []
  · rw [if_pos h0, V_nil h0.1, V_nil h0.2]; rfl
  · rw [if_neg h0]
    by_cases h : (x.neg != y.neg) = true
    · rw [if_pos h, cmp_signs hx hy _ h]
    · rw [if_neg h, s1, s2, V_mg, V_mg]
      have hg : y.neg = x.neg := by cases h1 : x.neg <;> cases h2 : y.neg <;> simp_all
      rw [hg, sgn_lt, cmpI_nat, cmpI_nat]
theorem refCmpP_eq {x y : D} (hx : Normal x) (hy : Normal y) : refCmpP x y = cmpP x y := by
  obtain ⟨u1, u2⟩ := under_al x y
  rw [refCmpP_val hx hy, cmpP_val hx hy u1 u2]

/-- A number's last n digits. -/
def digN : Nat → Nat → List Nat
  | 0, _ => []
  | n + 1, N => digN n (N / 10) ++ [N % 10]
theorem digN_len : ∀ n N, (digN n N).length = n
  | 0, _ => rfl
  | n + 1, N => by rw [digN, List.length_append, digN_len]; rfl
theorem digN_digs : ∀ n N, Digs (digN n N)
  | 0, _ => fun x hx => by simp [digN] at hx
  | n + 1, N => digs_append (digN_digs n _) fun x hx => by simp at hx; omega
theorem digN_num : ∀ n N, N < 10 ^ n → num (digN n N) = N
  | 0, N, h => by simp at h; subst h; rfl
  | n + 1, N, h => by
    rw [digN, num_append, digN_num n (N / 10) (by rw [Nat.pow_succ] at h; omega)]
    simp [num]
    omega
theorem digN_is {l : List Nat} {n N : Nat} (hd : Digs l) (hl : l.length = n) (hn : num l = N) : l = digN n N := by
  have h1 := num_lt hd
  rw [hl, hn] at h1
  exact num_inj hd (digN_digs n N) (by rw [digN_len, hl]) (by rw [digN_num n N h1, hn])
def prodP (x y : D) : D := norm (x.neg != y.neg) (digN (x.c.length + y.c.length) (num x.c * num y.c)) (x.e + y.e)
theorem prod_lt {a b : List Nat} (ha : Digs a) (hb : Digs b) : num a * num b < 10 ^ (a.length + b.length) := by
  rw [Nat.pow_add]
  have h1 := num_lt ha
  have h2 := num_lt hb
  have h3 : num a * num b ≤ num a * 10 ^ b.length := Nat.mul_le_mul_left _ (by omega)
  have h4 : num a * 10 ^ b.length < 10 ^ a.length * 10 ^ b.length := Nat.mul_lt_mul_of_pos_right h1 (Nat.pow_pos (by omega))
  omega
theorem prodP_normal (x y : D) : Normal (prodP x y) := norm_normal (digN_digs _ _)
theorem prodP_nil {x y : D} (h : x.c = [] ∨ y.c = []) : prodP x y = ⟨false, [], 0⟩ := by
  have h0 : num x.c * num y.c = 0 := by rcases h with h | h <;> rw [h] <;> simp [num]
  have hz : lead (digN (x.c.length + y.c.length) 0) = [] := by
    have : ∀ n, lead (digN n 0) = [] := by
      intro n
      have e : digN n 0 = List.replicate n 0 := (digN_is (digs_zeros n) (by simp) (num_zeros n)).symm
      rw [e]
      induction n with
      | zero => rfl
      | succ n ih => rw [List.replicate_succ, lead, if_pos rfl]; exact ih ((digN_is (digs_zeros n) (by simp) (num_zeros n)).symm)
    exact this _
  rw [prodP, h0, norm, if_pos hz]
theorem sgn_prod (a b : Bool) (p q : Int) : sgn (a != b) (p * q) = sgn a p * sgn b q := by cases a <;> cases b <;> simp [sgn, Int.neg_mul, Int.mul_neg]
theorem prodP_val {x y : D} {f g : Int} (hx : Normal x) (hy : Normal y) (ux : Under f x) (uy : Under g y) : V (prodP x y) (f + g) = V x f * V y g ∧ Under (f + g) (prodP x y) := by
  by_cases h1 : x.c = []
  · rw [prodP_nil (Or.inl h1), V_nil h1, V_nil rfl]; exact ⟨by simp, Or.inl rfl⟩
  · by_cases h2 : y.c = []
    · rw [prodP_nil (Or.inr h2), V_nil h2, V_nil rfl]; exact ⟨by simp, Or.inl rfl⟩
    · have fx := ux.resolve_left h1
      have fy := uy.resolve_left h2
      obtain ⟨h3, h4⟩ := norm_val (neg := (x.neg != y.neg)) (l := digN (x.c.length + y.c.length) (num x.c * num y.c)) (e := x.e + y.e) (f := f + g) (by omega)
      refine ⟨?_, h4⟩
      rw [prodP, h3, digN_num _ _ (prod_lt hx.1 hy.1), V, V, ← sgn_prod]
      congr 1
      rw [show (x.e + y.e - (f + g)).toNat = (x.e - f).toNat + (y.e - g).toNat by omega, Int.pow_add, Int.natCast_mul]
      grind
theorem prodP_bound {x y : D} {n m k j : Int} (hx : (x.c.length : Int) ≤ n) (hy : (y.c.length : Int) ≤ m) (ex : -k ≤ x.e ∧ x.e ≤ k) (ey : -j ≤ y.e ∧ y.e ≤ j) (hkj : 0 ≤ k + j) : ((prodP x y).c.length : Int) ≤ n + m ∧ -(k + j) ≤ (prodP x y).e ∧ (prodP x y).e ≤ k + j + n + m := by
  have h1 := norm_len (x.neg != y.neg) (digN (x.c.length + y.c.length) (num x.c * num y.c)) (x.e + y.e)
  have h2 := norm_e (x.neg != y.neg) (digN (x.c.length + y.c.length) (num x.c * num y.c)) (x.e + y.e)
  rw [digN_len] at h1 h2
  rw [prodP]
  omega
end Go.Proofs.YtmgafnflkfbckaaGreatDoor.Dc
