/- Decimals as lists of digits, compared: their values (after the texts for the statements on decimals). The contracts of magnitudes, compare and Cmp of decimals. -/
import Derived.Test.YtjapgpmoojfhnaaGreatDoorB02
import Derived.Test.YtjapgpmoojfhnaaGreatDoorB14
namespace Go.Proofs.YtjapgpmoojfhnaaGreatDoor.Dc
open Go Go.Lib
/-- The number that digits (or other places) stand for. -/
def num : List Nat → Nat
  | [] => 0
  | x :: l => x * 10 ^ l.length + num l
theorem num_append (a b : List Nat) : num (a ++ b) = num a * 10 ^ b.length + num b := by
  induction a with
  | nil => simp [num]
  | cons x a ih =>
    simp only [List.cons_append, num, ih, List.length_append, Nat.pow_add]
    grind
theorem num_zeros (k : Nat) : num (List.replicate k 0) = 0 := by
  induction k with
  | zero => rfl
  | succ k ih => rw [List.replicate_succ, num, ih]; simp
theorem num_lt {l : List Nat} (h : Digs l) : num l < 10 ^ l.length := by
  induction l with
  | nil => simp [num]
  | cons x l ih =>
    have h1 := ih fun y hy => h y (by simp [hy])
    have hx := h x (by simp)
    rw [num, List.length_cons, Nat.pow_succ]
    have h2 : x * 10 ^ l.length ≤ 9 * 10 ^ l.length := Nat.mul_le_mul_right _ (by omega)
    omega
def sgn (b : Bool) (n : Int) : Int := if b then -n else n
/-- The value in units of 10^f. -/
def V (x : D) (f : Int) : Int := sgn x.neg (num x.c * (10 : Int) ^ (x.e - f).toNat)
def Under (f : Int) (x : D) : Prop := x.c = [] ∨ f ≤ x.e
theorem Under.le {x : D} {f g : Int} (h : Under f x) (hg : g ≤ f) : Under g x := by
  rcases h with h | h
  · exact Or.inl h
  · exact Or.inr (by omega)
theorem num_ge {l : List Nat} (h : ∀ u, l.head? = some u → u ≠ 0) (hne : l ≠ []) : 10 ^ (l.length - 1) ≤ num l := by
  cases l with
  | nil => exact absurd rfl hne
  | cons x l =>
    have hx : x ≠ 0 := h x rfl
    rw [num, List.length_cons, Nat.add_sub_cancel]
    have : 1 * 10 ^ l.length ≤ x * 10 ^ l.length := Nat.mul_le_mul_right _ (by omega)
    omega
theorem pow_part {a b : Nat} {p q : Nat} (h : p * 10 ^ a = q * 10 ^ b) (hp : p % 10 ≠ 0) : b ≤ a := by
  refine Nat.le_of_not_lt fun hlt => hp ?_
  have e : 10 ^ b = 10 ^ (b - a - 1) * 10 * 10 ^ a := by
    rw [← Nat.pow_succ, ← Nat.pow_add]; congr 1; omega
  rw [e, ← Nat.mul_assoc] at h
  have := Nat.eq_of_mul_eq_mul_right (Nat.pow_pos (by omega)) h
  rw [this, ← Nat.mul_assoc]; omega
/-- The first difference of the digits from place i on, f places. -/
def diffN (a b : List Nat) (i : Nat) : Nat → Int
  | 0 => 0
  | f + 1 => if (a.getD i 0 : Int) - (b.getD i 0 : Int) ≠ 0 then (a.getD i 0 : Int) - (b.getD i 0 : Int) else diffN a b (i + 1) f
/-- The comparison of the absolute values. -/
def magN (a : List Nat) (e : Int) (b : List Nat) (f : Int) : Int :=
  if a.length = 0 ∨ b.length = 0 then (a.length : Int) - b.length
  else if (a.length : Int) + e - b.length - f ≠ 0 then (a.length : Int) + e - b.length - f
  else diffN a b 0 (max a.length b.length)
/-- The comparison of digits of one length. -/
def sizeL : List Nat → List Nat → Int
  | x :: a, y :: b => if x < y then -1 else if y < x then 1 else sizeL a b
  | _, _ => 0
def cmpN (a b : Nat) : Int := if a < b then -1 else if b < a then 1 else 0
theorem sizeL_num : ∀ {a b : List Nat}, Digs a → Digs b → a.length = b.length → sizeL a b = cmpN (num a) (num b)
  | [], [], _, _, _ => by simp [sizeL, cmpN, num]
  | [], y :: b, _, _, h => by simp at h
  | x :: a, [], _, _, h => by simp at h
  | x :: a, y :: b, ha, hb, h => by
    have ha' : Digs a := fun z hz => ha z (by simp [hz])
    have hb' : Digs b := fun z hz => hb z (by simp [hz])
    have hl : a.length = b.length := by simpa using h
    have ih := sizeL_num ha' hb' hl
    have h1 := num_lt ha'
    have h2 := num_lt hb'
    rw [sizeL, cmpN, num, num, hl]
    rw [hl] at h1
    have hm : ∀ u v : Nat, u < v → u * 10 ^ b.length + 10 ^ b.length ≤ v * 10 ^ b.length := by
      intro u v huv
      have := Nat.mul_le_mul_right (10 ^ b.length) (show u + 1 ≤ v by omega)
      rw [Nat.add_mul, Nat.one_mul] at this
      exact this
    by_cases c1 : x < y
    · have := hm x y c1
      rw [if_pos c1, if_pos (by omega)]
    · by_cases c2 : y < x
      · have := hm y x c2
        rw [if_neg c1, if_pos c2, if_neg (by omega), if_pos (by omega)]
      · obtain rfl : x = y := by omega
        rw [if_neg c1, if_neg c1, ih, cmpN]
        split
        · rw [if_pos (by omega)]
        · split
          · rw [if_neg (by omega), if_pos (by omega)]
          · rw [if_neg (by omega), if_neg (by omega)]

theorem diffN_shift (x y : Nat) (a b : List Nat) : ∀ f i, diffN (x :: a) (y :: b) (i + 1) f = diffN a b i f := by
  intro f
  induction f with
  | zero => intro i; rfl
  | succ f ih => intro i; simp [diffN, ih]
theorem getD_zeros (a : List Nat) (k i : Nat) : (a ++ List.replicate k 0).getD i 0 = a.getD i 0 := by
  simp only [List.getD_eq_getElem?_getD]
  by_cases h : i < a.length
  · rw [List.getElem?_append_left h]
  · rw [List.getElem?_append_right (by omega), List.getElem?_eq_none (l := a) (by omega), List.getElem?_replicate]
    split <;> rfl
theorem diffN_pad (a b : List Nat) (k k' : Nat) : ∀ f i, diffN (a ++ List.replicate k 0) (b ++ List.replicate k' 0) i f = diffN a b i f := by
  intro f
  induction f with
  | zero => intro i; rfl
  | succ f ih => intro i; rw [diffN, diffN, getD_zeros, getD_zeros, ih]
theorem diffN_size : ∀ {a b : List Nat}, a.length = b.length → (diffN a b 0 a.length < 0 ↔ sizeL a b = -1) ∧ (diffN a b 0 a.length = 0 ↔ sizeL a b = 0)
  | [], [], _ => by simp [diffN, sizeL]
  | [], y :: b, h => by simp at h
  | x :: a, [], h => by simp at h
  | x :: a, y :: b, h => by
    have ih := diffN_size (a := a) (b := b) (by simpa using h)
    rw [List.length_cons, diffN, diffN_shift, sizeL]
    simp only [List.getD_cons_zero]
    by_cases c1 : x < y
    · rw [if_pos (by omega), if_pos c1]; omega
    · by_cases c2 : y < x
      · rw [if_pos (by omega), if_neg c1, if_pos c2]; omega
      · rw [if_neg (by omega), if_neg c1, if_neg c2]; exact ih
theorem cmpN_lt {a b : Nat} : cmpN a b = -1 ↔ a < b := by
  unfold cmpN; split
  · simp [*]
  · split <;> simp <;> omega
theorem cmpN_eq {a b : Nat} : cmpN a b = 0 ↔ a = b := by
  unfold cmpN; split
  · simp; omega
  · split <;> simp <;> omega
theorem digs_zeros (k : Nat) : Digs (List.replicate k 0) := fun x hx => by rw [(List.mem_replicate.1 hx).2]; omega
theorem digs_append {a b : List Nat} (ha : Digs a) (hb : Digs b) : Digs (a ++ b) := fun x hx => (List.mem_append.1 hx).elim (ha x) (hb x)

/-- The magnitudes of two numbers in units of a power below both. -/
def mg (l : List Nat) (e f : Int) : Nat := num l * 10 ^ (e - f).toNat
theorem mg_nil (e f : Int) : mg [] e f = 0 := by simp [mg, num]
def Heads (l : List Nat) : Prop := ∀ u, l.head? = some u → u ≠ 0
theorem mg_pos {l : List Nat} (h : Heads l) (hne : l ≠ []) (e f : Int) : 0 < mg l e f := by
  have h1 := num_ge h hne
  have h2 : 0 < 10 ^ (l.length - 1) := Nat.pow_pos (by omega)
  exact Nat.mul_pos (by omega) (Nat.pow_pos (by omega))
theorem mg_lt {l : List Nat} (h : Digs l) {e f : Int} (hf : f ≤ e) : mg l e f < 10 ^ ((l.length : Int) + e - f).toNat := by
  rw [mg, show ((l.length : Int) + e - f).toNat = l.length + (e - f).toNat by omega, Nat.pow_add]
  exact Nat.mul_lt_mul_of_pos_right (num_lt h) (Nat.pow_pos (by omega))
theorem mg_ge {l : List Nat} (h : Heads l) (hne : l ≠ []) {e f : Int} (hf : f ≤ e) : 10 ^ ((l.length : Int) + e - f - 1).toNat ≤ mg l e f := by
  have hl : 0 < l.length := List.length_pos_iff.2 hne
  rw [mg, show ((l.length : Int) + e - f - 1).toNat = (l.length - 1) + (e - f).toNat by omega, Nat.pow_add]
  exact Nat.mul_le_mul_right _ (num_ge h hne)
theorem mag_less {a b : List Nat} {e f m : Int} (ha : Digs a) (hb : Heads b) (hnb : b ≠ []) (he : m ≤ e) (hf : m ≤ f) (h : (a.length : Int) + e < b.length + f) : mg a e m < mg b f m := by
  have h1 := mg_lt ha he
  have h2 := mg_ge hb hnb hf
  have hl : 0 < b.length := List.length_pos_iff.2 hnb
  have h3 : 10 ^ ((a.length : Int) + e - m).toNat ≤ 10 ^ ((b.length : Int) + f - m - 1).toNat := Nat.pow_le_pow_right (by omega) (by omega)
  omega
/-- What magnitudes tells. -/
theorem magN_is {a b : List Nat} {e f m : Int} (ha : Digs a) (hb : Digs b) (ha' : Heads a) (hb' : Heads b) (he : a = [] ∨ m ≤ e) (hf : b = [] ∨ m ≤ f) :
    (magN a e b f < 0 ↔ mg a e m < mg b f m) ∧ (magN a e b f = 0 ↔ mg a e m = mg b f m) := by
  rw [magN]
  by_cases h0 : a.length = 0 ∨ b.length = 0
  · rw [if_pos h0]
    by_cases hna : a = []
    · subst hna
      by_cases hnb : b = []
      · subst hnb; simp [mg_nil]
      · have hl : 0 < b.length := List.length_pos_iff.2 hnb
        have := mg_pos hb' hnb f m
        rw [mg_nil, List.length_nil]
        constructor <;> constructor <;> intro <;> omega
    · have hl : 0 < a.length := List.length_pos_iff.2 hna
      obtain rfl : b = [] := List.length_eq_zero_iff.1 (by omega)
      have := mg_pos ha' hna e m
      rw [mg_nil, List.length_nil]
      constructor <;> constructor <;> intro <;> omega
  · rw [if_neg h0]
    have hna : a ≠ [] := by intro h; subst h; simp at h0
    have hnb : b ≠ [] := by intro h; subst h; simp at h0
    have he := he.resolve_left hna
    have hf := hf.resolve_left hnb
    by_cases h1 : (a.length : Int) + e - b.length - f ≠ 0
    · rw [if_pos h1]
      by_cases h2 : (a.length : Int) + e < b.length + f
      · have := mag_less (m := m) ha hb' hnb he hf h2
        omega
      · have := mag_less (m := m) hb ha' hna hf he (by omega)
        omega
    · rw [if_neg h1]
      obtain ⟨N, hN⟩ : ∃ N, max a.length b.length = N := ⟨_, rfl⟩
      rw [hN]
      obtain ⟨k, hk⟩ : ∃ k, N - a.length = k := ⟨_, rfl⟩
      obtain ⟨k', hk'⟩ : ∃ k', N - b.length = k' := ⟨_, rfl⟩
      have hA : (a ++ List.replicate k 0).length = N := by simp; omega
      have hB : (b ++ List.replicate k' 0).length = N := by simp; omega
      have hs := diffN_size (a := a ++ List.replicate k 0) (b := b ++ List.replicate k' 0) (by omega)
      rw [hA, diffN_pad] at hs
      rw [sizeL_num (digs_append ha (digs_zeros _)) (digs_append hb (digs_zeros _)) (by omega), cmpN_lt, cmpN_eq, num_append, num_append, num_zeros, num_zeros] at hs
      simp only [List.length_replicate, Nat.add_zero] at hs
      obtain ⟨M, hM⟩ : ∃ M : Nat, (e - m).toNat - k = M := ⟨_, rfl⟩
      have h3 : mg a e m = num a * 10 ^ k * 10 ^ M := by rw [mg, Nat.mul_assoc, ← Nat.pow_add]; congr 2; omega
      have h4 : mg b f m = num b * 10 ^ k' * 10 ^ M := by rw [mg, Nat.mul_assoc, ← Nat.pow_add]; congr 2; omega
      rw [h3, h4, hs.1, hs.2]
      have hP : 0 < 10 ^ M := Nat.pow_pos (by omega)
      exact ⟨(Nat.mul_lt_mul_right hP).symm, ⟨fun h => by rw [h], fun h => Nat.eq_of_mul_eq_mul_right hP h⟩⟩
theorem V_mg (x : D) (f : Int) : V x f = sgn x.neg (mg x.c x.e f : Int) := by rw [V, mg]; simp

theorem normal_heads {x : D} (h : Normal x) : Heads x.c := h.2.2.1
/-- The program's comparison. -/
def sg (n : Int) : Int := if n < 0 then -1 else if 0 < n then 1 else 0
def cmpP (x y : D) : Int :=
  if (x.neg != y.neg) = true then (if x.neg = true then -1 else 1) else if x.neg = true then -(sg (magN x.c x.e y.c y.e)) else sg (magN x.c x.e y.c y.e)
def cmpI (a b : Int) : Int := if a < b then -1 else if b < a then 1 else 0

theorem sgn_lt (g : Bool) {p q : Int} : cmpI (sgn g p) (sgn g q) = if g = true then cmpI q p else cmpI p q := by
  cases g <;> simp [sgn, cmpI] <;> (split <;> split <;> first | rfl | omega)
theorem cmpI_nat (a b : Nat) : cmpI (a : Int) (b : Int) = cmpN a b := by
  unfold cmpI cmpN
  by_cases h1 : a < b
  · rw [if_pos (by omega), if_pos h1]
  · by_cases h2 : b < a
    · rw [if_neg (by omega), if_pos (by omega), if_neg h1, if_pos h2]
    · rw [if_neg (by omega), if_neg (by omega), if_neg h1, if_neg h2]
theorem neg_has {x : D} (h : Normal x) (hg : x.neg = true) : x.c ≠ [] := by
  intro hc
  have := (h.2.1 hc).1
  rw [hg] at this; cases this
theorem cmp_signs {x y : D} (hx : Normal x) (hy : Normal y) (f : Int) (h : (x.neg != y.neg) = true) : cmpI (V x f) (V y f) = if x.neg = true then -1 else 1 := by
  rw [V_mg, V_mg]
  cases hgx : x.neg with
  | true =>
    have hgy : y.neg = false := by rw [hgx] at h; cases hy2 : y.neg <;> simp_all
    have hp := mg_pos (normal_heads hx) (neg_has hx hgx) x.e f
    rw [hgy]
    simp only [sgn, cmpI]
    simp
    omega
  | false =>
    have hgy : y.neg = true := by rw [hgx] at h; cases hy2 : y.neg <;> simp_all
    have hp := mg_pos (normal_heads hy) (neg_has hy hgy) y.e f
    rw [hgy]
    simp only [sgn, cmpI]
    simp
    omega
/-- The program's comparison is that of the values. -/
theorem cmpP_val {x y : D} {f : Int} (hx : Normal x) (hy : Normal y) (ux : Under f x) (uy : Under f y) : cmpP x y = cmpI (V x f) (V y f) := by
  rw [cmpP]
  by_cases h : (x.neg != y.neg) = true
  · rw [if_pos h, cmp_signs hx hy f h]
  · rw [if_neg h]
    have hg : y.neg = x.neg := by cases h1 : x.neg <;> cases h2 : y.neg <;> simp_all
    obtain ⟨m1, m2⟩ := magN_is (m := f) hx.1 hy.1 (normal_heads hx) (normal_heads hy) ux uy
    have hs : sg (magN x.c x.e y.c y.e) = cmpN (mg x.c x.e f) (mg y.c y.e f) := by
      unfold sg cmpN
      by_cases c1 : mg x.c x.e f < mg y.c y.e f
      · rw [if_pos (m1.2 c1), if_pos c1]
      · by_cases c2 : mg x.c x.e f = mg y.c y.e f
        · have := m2.2 c2
          rw [if_neg (by omega), if_neg (by omega), if_neg c1, if_neg (by omega)]
        · have k1 : ¬ magN x.c x.e y.c y.e < 0 := fun h => c1 (m1.1 h)
          have k2 : ¬ magN x.c x.e y.c y.e = 0 := fun h => c2 (m2.1 h)
          rw [if_neg k1, if_pos (by omega), if_neg c1, if_pos (by omega)]
    rw [hs, V_mg, V_mg, hg, sgn_lt, cmpI_nat, cmpI_nat]
    split
    · unfold cmpN
      by_cases c1 : mg x.c x.e f < mg y.c y.e f
      · rw [if_pos c1, if_neg (by omega), if_pos c1]; rfl
      · rw [if_neg c1, if_neg c1]; split <;> rfl
    · rfl
theorem canon_bound {x : D} (h : Canon x) : Digs x.c ∧ x.c.length ≤ 400 ∧ -2000 ≤ x.e ∧ x.e ≤ 2000 := by
  obtain ⟨a, b, c⟩ := limit_ok.1 h.2
  exact ⟨h.1.1, a, b, c⟩
end Go.Proofs.YtjapgpmoojfhnaaGreatDoor.Dc

namespace Go.Proofs.YtjapgpmoojfhnaaGreatDoor
open Go.RowKit Go.Lib
theorem num_letters (y : Dc.D) : ∃ (g : Bool) (l : List Nat) (e : Int) (n : Nat), y.neg = g ∧ y.c = l ∧ y.e = e ∧ l.length = n ∧ y = ⟨g, l, e⟩ := ⟨_, _, _, _, rfl, rfl, rfl, rfl, rfl⟩
set_option maxHeartbeats 1000000 in
set_option maxRecDepth 100000 in
theorem at_any (g : Bool) (A : Option Addr) (m : Nat) (l : List Nat) (e : Int) (i : Nat) (w : World) (hr : Reads w w.heap.size A m (u8s l)) (hi : i ≤ 1048576) :
    Calls Tryz.prog 144 #[.agg #[.bool g, .slice A m m, .int .i64 e], .int .i64 (i : Int)] w fun x w' => x = .returned (.int .u8 ((l.getD i 0 : Nat) : Int)) ∧ Below w.heap.size w w' := by
  have hlm : l.length = m := by have := hr.1; rwa [u8s_len] at this
  by_cases h : i < m
  · obtain ⟨b, off, u, rfl, hbB, hu, hcell⟩ := hr.at_ (k := i) h
    obtain ⟨x, hx, rfl⟩ := u8_at hu
    have hg : l.getD i 0 = x := by rw [List.getD_eq_getElem?_getD, hx]; rfl
    rw [hg]
    have hii : (i : Int) < (m : Int) := by omega
    have hi0 : (0 : Int) ≤ (i : Int) := by omega
    have HX := Lib.hid hx
    clear hx hu hg hlm
    go_enter Tryz.func144, Tryz.ntmps144
    go_wp2
    go_ret
    exact ⟨rfl, (Below.refl _ _).alloc (Nat.le_refl _) _⟩
  · have hg : l.getD i 0 = 0 := by rw [List.getD_eq_getElem?_getD, List.getElem?_eq_none (by omega)]; rfl
    rw [hg]
    have hii : ¬ (i : Int) < (m : Int) := by omega
    clear hg hlm
    go_enter Tryz.func144, Tryz.ntmps144
    go_wp2
    go_ret
    exact ⟨rfl, (Below.refl _ _).alloc (Nat.le_refl _) _⟩

theorem p6 {A B C D E F : Prop} {a W : World} (h : A ∧ B ∧ C ∧ D ∧ E ∧ F ∧ Below a.heap.size a W) : Below a.heap.size a W := h.2.2.2.2.2.2
theorem p6_trans {A B C D E F : Prop} {a W W' : World} (h : A ∧ B ∧ C ∧ D ∧ E ∧ F ∧ Below a.heap.size a W) (hb : Below W.heap.size W W') : Below a.heap.size a W' := (p6 h).trans (hb.mono (p6 h).size)
/-- Two numbers, boxed. -/
theorem box_two (g : Bool) (A : Option Addr) (n c : Nat) (e : Int) (g' : Bool) (A' : Option Addr) (n' c' : Nat) (e' : Int) (w : World) :
    ∃ (w2 : World) (X : Nat), (w.alloc (.cells #[.bool g, .slice A n c, .int .i64 e] 104)).alloc (.cells #[.bool g', .slice A' n' c', .int .i64 e'] 104) = w2 ∧ w.heap.size = X ∧ Below w.heap.size w w2 ∧ w2.heap.size = X + 2 ∧
    w2.heap[X]? = some (.cells #[.bool g, .slice A n c, .int .i64 e] 104 (0, 0)) ∧ w2.heap[X + 1]? = some (.cells #[.bool g', .slice A' n' c', .int .i64 e'] 104 (0, 0)) := by
  refine ⟨_, _, rfl, rfl, ((Below.refl _ _).alloc (Nat.le_refl _) _).alloc (by simp) _, by simp, ?_, ?_⟩
  · exact (Below.heap_alloc _ _ _ (by simp)).trans (heap_alloc_new w _)
  · have := heap_alloc_new (w.alloc (.cells #[.bool g, .slice A n c, .int .i64 e] 104)) (.cells #[.bool g', .slice A' n' c', .int .i64 e'] 104)
    simpa using this

set_option maxHeartbeats 1000000 in
set_option maxRecDepth 100000 in
theorem mag_any (g : Bool) (A : Option Addr) (m : Nat) (l : List Nat) (e : Int) (g' : Bool) (A' : Option Addr) (m' : Nat) (l' : List Nat) (e' : Int) (w : World)
    (hr : Reads w w.heap.size A m (u8s l)) (hr' : Reads w w.heap.size A' m' (u8s l')) (hd : Dc.Digs l) (hd' : Dc.Digs l') (hm : m ≤ 1048576) (hm' : m' ≤ 1048576) (he : -1048576 ≤ e ∧ e ≤ 1048576) (he' : -1048576 ≤ e' ∧ e' ≤ 1048576) :
    Calls Tryz.prog 112 #[.agg #[.bool g, .slice A m m, .int .i64 e], .agg #[.bool g', .slice A' m' m', .int .i64 e']] w fun x w' => x = .returned (.int .i64 (Dc.magN l e l' e')) ∧ Below w.heap.size w w' := by
  have hlm : l.length = m := by have := hr.1; rwa [u8s_len] at this
  have hlm' : l'.length = m' := by have := hr'.1; rwa [u8s_len] at this
  obtain ⟨w2, X, hw2, hX, hb2, hsz, hX2, hY2⟩ := box_two g A m m e g' A' m' m' e' w
  have hR := hr.on hb2
  have hR' := hr'.on hb2
  have hcells : ∀ W, Below w2.heap.size w2 W → W.cell? ⟨X, 0, none⟩ = some (.bool g) ∧ W.cell? ⟨X, 1, none⟩ = some (.slice A m m) ∧ W.cell? ⟨X, 2, none⟩ = some (.int .i64 e) ∧
      W.cell? ⟨X + 1, 0, none⟩ = some (.bool g') ∧ W.cell? ⟨X + 1, 1, none⟩ = some (.slice A' m' m') ∧ W.cell? ⟨X + 1, 2, none⟩ = some (.int .i64 e') ∧ Below w2.heap.size w2 W := by
    intro W hW
    have h1 := (hW.block X (by omega)).trans hX2
    have h2 := (hW.block (X + 1) (by omega)).trans hY2
    exact ⟨at_block h1 0 _ rfl, at_block h1 1 _ rfl, at_block h1 2 _ rfl, at_block h2 0 _ rfl, at_block h2 1 _ rfl, at_block h2 2 _ rfl, hW⟩
  obtain ⟨p0, p1, p2, q0, q1, q2, hd2⟩ := hcells w2 (Below.refl _ _)
  have HW2 := Lib.hid hw2
  have HXX := Lib.hid hX
  have HC := Lib.hid hcells
  have HR := Lib.hid hR
  have HR' := Lib.hid hR'
  have ATA := Lib.hid (fun i W hW hi => at_any g A m l e i W hW hi)
  have ATB := Lib.hid (fun i W hW hi => at_any g' A' m' l' e' i W hW hi)
  clear hcells hR hR' hr hr' hX2 hY2 hw2 hX
  by_cases h0 : m = 0
  · have hv : Dc.magN l e l' e' = (m : Int) - m' := by rw [Dc.magN, hlm, hlm', if_pos (Or.inl h0)]
    have HV := Lib.hid hv
    clear hv hlm hlm'
    subst h0
    go_enter Tryz.func112, Tryz.ntmps112
    go_upto_region 1 with fail
    rw [HW2.out, HXX.out]
    go_wp2_with fail
    go_ret
    exact ⟨by rw [HV.out]; first | rfl | simp, hb2⟩
  · have h0f : ((m : Int) == 0) = false := beq_eq_false_iff_ne.2 (by omega)
    by_cases h0' : m' = 0
    · have hv : Dc.magN l e l' e' = (m : Int) - m' := by rw [Dc.magN, hlm, hlm', if_pos (Or.inr h0')]
      have HV := Lib.hid hv
      clear hv hlm hlm'
      subst h0'
      go_enter Tryz.func112, Tryz.ntmps112
      go_upto_region 1 with fail
      rw [HW2.out, HXX.out]
      go_wp2_with fail
      go_ret
      exact ⟨by rw [HV.out]; first | rfl | simp, hb2⟩
    · have h0g : ((m' : Int) == 0) = false := beq_eq_false_iff_ne.2 (by omega)
      by_cases hc : (m : Int) + e - m' - e' = 0
      · have hv : Dc.magN l e l' e' = Dc.diffN l l' 0 (max m m') := by rw [Dc.magN, hlm, hlm', if_neg (by omega), if_neg (by omega)]
        have hcf : ((m : Int) + e - m' - e' != 0) = false := by simp [hc]
        obtain ⟨M, hM⟩ : ∃ M, max m m' = M := ⟨_, rfl⟩
        rw [hM] at hv
        have HV := Lib.hid hv
        have HM := Lib.hid hM
        clear hv hlm hlm' hM
        go_enter Tryz.func112, Tryz.ntmps112
        go_upto_region 1 with fail
        rw [HW2.out, HXX.out]
        go_upto_region 7 with fail
        go_cut [48, 49] (fun a b wx => a = .int .i64 (M : Int) ∧ b = .int .i64 0 ∧ wx = w2)
        case first =>
          go_wp2_with fail
          go_meet
          exact ⟨congrArg (Value.int .i64) (by have := HM.out; omega), rfl, rfl⟩
        case rest =>
          obtain ⟨rfl, rfl, hwc⟩ := hcut
          subst hwc
          obtain ⟨w3, hw3⟩ : ∃ W, W = wc := ⟨_, rfl⟩
          subst hw3
          have hMb : M ≤ 1048576 := by have := HM.out; omega
          go_wp2_with fail
          go_loopg [49] M (fun f i wx => ∃ k : Nat, i = .int .i64 k ∧ k ≤ M ∧ M ≤ k + f ∧ Below w3.heap.size w3 wx ∧ Dc.diffN l l' 0 M = Dc.diffN l l' k (M - k))
          case atStart => exact ⟨0, rfl, by omega, by omega, hd2, by simp⟩
          case round =>
            obtain ⟨k, rfl, hk, hf, hdx, hdif⟩ := hrel
            have HDF := Lib.hid hdif
            clear hdif p0 p1 p2 q0 q1 q2
            obtain ⟨p0, p1, p2, q0, q1, q2, _⟩ := HC.out _ hdx
            by_cases hlt : k < M
            · obtain ⟨f, rfl⟩ : ∃ f, gk = f + 1 := ⟨gk - 1, by omega⟩
              have hin : (k : Int) < (M : Int) := by omega
              obtain ⟨a, ha⟩ : ∃ a, l.getD k 0 = a := ⟨_, rfl⟩
              obtain ⟨b, hb⟩ : ∃ b, l'.getD k 0 = b := ⟨_, rfl⟩
              have ha10 : a < 10 := by
                rw [← ha, List.getD_eq_getElem?_getD]
                cases hh : l[k]? with
                | none => simp
                | some z => exact hd z (List.mem_of_getElem? hh)
              have hb10 : b < 10 := by
                rw [← hb, List.getD_eq_getElem?_getD]
                cases hh : l'[k]? with
                | none => simp
                | some z => exact hd' z (List.mem_of_getElem? hh)
              have ATa := Lib.hid (fun W hW => ATA.out k W hW (by omega))
              have ATb := Lib.hid (fun W hW => ATB.out k W hW (by omega))
              rw [ha] at ATa
              rw [hb] at ATb
              have hstep : Dc.diffN l l' k (M - k) = if (a : Int) - (b : Int) ≠ 0 then (a : Int) - (b : Int) else Dc.diffN l l' (k + 1) (M - (k + 1)) := by
                rw [show M - k = (M - (k + 1)) + 1 by omega, Dc.diffN, ha, hb]
              have HST := Lib.hid hstep
              clear ha hb hstep
              have hwa : IntKind.i64.wrap (a : Int) = (a : Int) := IntWalk.i64_in _ (by omega)
              have hwb : IntKind.i64.wrap (b : Int) = (b : Int) := IntWalk.i64_in _ (by omega)
              have hws : IntKind.i64.wrap ((a : Int) - (b : Int)) = (a : Int) - (b : Int) := IntWalk.i64_in _ (by omega)
              go_upto_region 10 with fail
              go_region_held3 (fun W => W.cell? ⟨X, 0, none⟩ = some (.bool g) ∧ W.cell? ⟨X, 1, none⟩ = some (.slice A m m) ∧ W.cell? ⟨X, 2, none⟩ = some (.int .i64 e) ∧
                  W.cell? ⟨X + 1, 0, none⟩ = some (.bool g') ∧ W.cell? ⟨X + 1, 1, none⟩ = some (.slice A' m' m') ∧ W.cell? ⟨X + 1, 2, none⟩ = some (.int .i64 e') ∧ Below w3.heap.size w3 W)
                ((refine HC.out _ ?_; first | assumption | exact b_drew (by assumption)))
                (first | (with_reducible refine (ATa.out _ (HR.out.on (p6 (by assumption)))).mono ?_; rintro x w7 ⟨rfl, hb7⟩; have hb7' := p6_trans (by assumption) hb7) | (with_reducible refine (ATb.out _ (HR'.out.on (p6 (by assumption)))).mono ?_; rintro x w7 ⟨rfl, hb7⟩; have hb7' := p6_trans (by assumption) hb7))
              by_cases hab : (a : Int) - (b : Int) = 0
              · have habf : ((a : Int) - (b : Int) != 0) = false := by simp [hab]
                have HAB := Lib.hid hab
                clear hab
                go_wp2_with fail
                go_roundg f
                case measure => omega
                case rel => exact ⟨k + 1, by go_num, by omega, by omega, hb7', by rw [HDF.out, HST.out, if_neg (by rw [HAB.out]; simp)]⟩
              · have habf : ((a : Int) - (b : Int) != 0) = true := by simp [hab]
                have HAB := Lib.hid hab
                clear hab
                go_wp2_with fail
                go_ret
                exact ⟨by rw [HV.out, HDF.out, HST.out, if_pos HAB.out]; rfl, hb2.trans (hb7'.mono hb2.size)⟩
            · have hin : ¬ (k : Int) < (M : Int) := by omega
              have hz : Dc.diffN l l' 0 M = 0 := by rw [HDF.out, show M - k = 0 by omega]; rfl
              have HZ := Lib.hid hz
              clear hz
              go_wp2_with fail
              go_ret
              exact ⟨by rw [HV.out, HZ.out]; rfl, hb2.trans (hdx.mono hb2.size)⟩
      · have hv : Dc.magN l e l' e' = (m : Int) + e - m' - e' := by rw [Dc.magN, hlm, hlm', if_neg (by omega), if_pos hc]
        have hcf : ((m : Int) + e - m' - e' != 0) = true := by simp [hc]
        have HV := Lib.hid hv
        clear hv hlm hlm'
        go_enter Tryz.func112, Tryz.ntmps112
        go_upto_region 1 with fail
        rw [HW2.out, HXX.out]
        go_wp2_with fail
        go_ret
        exact ⟨by rw [HV.out]; first | rfl | simp, hb2⟩
set_option maxHeartbeats 1000000 in
set_option maxRecDepth 100000 in
theorem signum_any (N : Int) (w : World) : Calls Tryz.prog 111 #[.int .i64 N] w fun x w' => x = .returned (.int .i64 (Dc.sg N)) ∧ w' = w := by
  by_cases h1 : N < 0
  · rw [Dc.sg, if_pos h1]
    go_enter Tryz.func111, Tryz.ntmps111
    go_wp2_with fail
    go_ret
    exact ⟨rfl, rfl⟩
  · by_cases h2 : 0 < N
    · rw [Dc.sg, if_neg h1, if_pos h2]
      go_enter Tryz.func111, Tryz.ntmps111
      go_wp2_with fail
      go_ret
      exact ⟨rfl, rfl⟩
    · rw [Dc.sg, if_neg h1, if_neg h2]
      go_enter Tryz.func111, Tryz.ntmps111
      go_wp2_with fail
      go_ret
      exact ⟨rfl, rfl⟩
theorem Dc.sg_range (N : Int) : Dc.sg N = -1 ∨ Dc.sg N = 0 ∨ Dc.sg N = 1 := by
  rw [Dc.sg]; split
  · exact Or.inl rfl
  · split
    · exact Or.inr (Or.inr rfl)
    · exact Or.inr (Or.inl rfl)

set_option maxHeartbeats 1000000 in
set_option maxRecDepth 100000 in
theorem compare_any (g : Bool) (A : Option Addr) (n : Nat) (l : List Nat) (e : Int) (g' : Bool) (A' : Option Addr) (m : Nat) (l' : List Nat) (e' : Int) (w : World)
    (hr : Reads w w.heap.size A n (u8s l)) (hr' : Reads w w.heap.size A' m (u8s l')) (hd : Dc.Digs l) (hd' : Dc.Digs l') (hn : n ≤ 10000) (hm : m ≤ 10000) (he : -10000 ≤ e ∧ e ≤ 10000) (he' : -10000 ≤ e' ∧ e' ≤ 10000) :
    Calls Tryz.prog 60 #[.agg #[.bool g, .slice A n n, .int .i64 e], .agg #[.bool g', .slice A' m m, .int .i64 e']] w fun x w' => x = .returned (.int .i64 (Dc.cmpP ⟨g, l, e⟩ ⟨g', l', e'⟩)) ∧ Below w.heap.size w w' := by
  obtain ⟨w2, X, hw2, hX, hb2, hsz, hX2, hY2⟩ := box_two g A n n e g' A' m m e' w
  obtain ⟨R, hR⟩ : ∃ R, Dc.cmpP ⟨g, l, e⟩ ⟨g', l', e'⟩ = R := ⟨_, rfl⟩
  rw [hR]
  have x0 := at_block hX2 0 _ rfl
  have x1 := at_block hX2 1 _ rfl
  have x2 := at_block hX2 2 _ rfl
  have y0 := at_block hY2 0 _ rfl
  have y1 := at_block hY2 1 _ rfl
  have y2 := at_block hY2 2 _ rfl
  obtain ⟨N, hN⟩ : ∃ N, Dc.magN l e l' e' = N := ⟨_, rfl⟩
  obtain ⟨S, hS⟩ : ∃ S, Dc.sg N = S := ⟨_, rfl⟩
  have hSr : S = -1 ∨ S = 0 ∨ S = 1 := hS ▸ Dc.sg_range N
  have MG := fun W hW hW' => mag_any g A n l e g' A' m l' e' W hW hW' hd hd' (by omega) (by omega) (by omega) (by omega)
  rw [hN] at MG
  have SG := fun W => signum_any N W
  rw [hS] at SG
  have hb2' : Below w.heap.size w w2 := hb2
  have HR0 := hr.on hb2'
  have HR1 := hr'.on hb2'
  rw [Dc.cmpP] at hR
  simp only [hN, hS] at hR
  have MG := Lib.hid MG
  have SG := Lib.hid SG
  have HR := Lib.hid hR
  have HR0 := Lib.hid HR0
  have HR1 := Lib.hid HR1
  have HW2 := Lib.hid hw2
  have HX := Lib.hid hX
  have HSR := Lib.hid hSr
  have HBW := Lib.hid hb2
  have HX2 := Lib.hid hX2
  clear hw2 hX hr hr' hd hd' hN hS hSr hR hX2 hY2 hb2 hb2'
  cases g with
  | true =>
    cases g' with
    | true =>
      have h := HR.out
      simp only [bne_self_eq_false, Bool.false_eq_true, if_false, if_true] at h
      subst h
      have hneg : IntKind.i64.wrap (-S) = -S := IntWalk.i64_in _ (by have := HSR.out; omega)
      go_enter Tryz.func60, Tryz.ntmps60
      go_upto_region 1 with fail
      rw [HW2.out, HX.out]
      go_wp2_with fail
      refine (MG.out _ HR0.out HR1.out).mono ?_
      rintro x w5 ⟨rfl, hb5⟩
      have x5 := at_block ((hb5.block X (by omega)).trans HX2.out) 0 _ rfl
      go_wp2_with fail
      refine (SG.out _).mono ?_
      rintro x w6 ⟨rfl, hw6⟩
      subst hw6
      go_wp2_with fail
      go_ret
      exact ⟨rfl, HBW.out.trans (hb5.mono HBW.out.size)⟩
    | false =>
      have h := HR.out
      simp only [show (((true : Bool) != false) = true) from rfl, if_true] at h
      subst h
      go_enter Tryz.func60, Tryz.ntmps60
      go_upto_region 1 with fail
      rw [HW2.out, HX.out]
      go_wp2_with fail
      go_ret
      exact ⟨rfl, HBW.out⟩
  | false =>
    cases g' with
    | true =>
      have h := HR.out
      simp only [show (((false : Bool) != true) = true) from rfl, Bool.false_eq_true, if_false, if_true] at h
      subst h
      go_enter Tryz.func60, Tryz.ntmps60
      go_upto_region 1 with fail
      rw [HW2.out, HX.out]
      go_wp2_with fail
      go_ret
      exact ⟨rfl, HBW.out⟩
    | false =>
      have h := HR.out
      simp only [bne_self_eq_false, Bool.false_eq_true, if_false] at h
      subst h
      go_enter Tryz.func60, Tryz.ntmps60
      go_upto_region 1 with fail
      rw [HW2.out, HX.out]
      go_wp2_with fail
      refine (MG.out _ HR0.out HR1.out).mono ?_
      rintro x w5 ⟨rfl, hb5⟩
      have x5 := at_block ((hb5.block X (by omega)).trans HX2.out) 0 _ rfl
      go_wp2_with fail
      refine (SG.out _).mono ?_
      rintro x w6 ⟨rfl, hw6⟩
      subst hw6
      go_wp2_with fail
      go_ret
      exact ⟨rfl, HBW.out.trans (hb5.mono HBW.out.size)⟩
set_option maxHeartbeats 1000000 in
set_option maxRecDepth 100000 in
theorem deccmp_some (s t : ByteArray) (w : World) (hs : s.size ≤ 536870912) (ht : t.size ≤ 536870912) (hL : Laid w) {x y : Dc.D} (hr : Dc.readP s.data.toList = some x) (hr' : Dc.readP t.data.toList = some y) : Calls Tryz.prog 24 #[.string s, .string t] w fun z w' => z = .returned (.int .i64 (Dc.cmpP x y)) ∧ Below w.heap.size w w' := by
  have hw4 := hL.2.1
  have HL := Lib.hid hL
  have hcx := (Dc.readP_some hr).1
  have hcy := (Dc.readP_some hr').1
  obtain ⟨a1, a2, a3, a4⟩ := Dc.canon_bound hcx
  obtain ⟨b1, b2, b3, b4⟩ := Dc.canon_bound hcy
  have RS := read_some s w hs hL x hr
  have RT := (fun W hW => read_some t W ht hW y hr')
  obtain ⟨z, hz⟩ : ∃ z, Dc.cmpP x y = z := ⟨_, rfl⟩
  rw [hz]
  obtain ⟨g, l, e, n, hg, hl, he, hln, hxx⟩ := num_letters x
  obtain ⟨g', l', e', n', hg', hl', he', hln', hyy⟩ := num_letters y
  rw [hl] at a1 a2
  rw [he] at a3 a4
  rw [hl'] at b1 b2
  rw [he'] at b3 b4
  rw [hln] at a2
  rw [hln'] at b2
  have SU : ∀ A A' W, Reads W W.heap.size A n (u8s l) → Reads W W.heap.size A' n' (u8s l') → Calls Tryz.prog 60 #[.agg #[.bool g, .slice A n n, .int .i64 e], .agg #[.bool g', .slice A' n' n', .int .i64 e']] W fun x w' => x = .returned (.int .i64 z) ∧ Below W.heap.size W w' := by
    intro A A' W h1 h2
    have h := compare_any g A n l e g' A' n' l' e' W h1 h2 a1 b1 (by omega) (by omega) (by omega) (by omega)
    rwa [← hxx, ← hyy, hz] at h
  rw [hg, hl, he, hln] at RS
  rw [hg', hl', he', hln'] at RT
  have RS := Lib.hid RS
  have RT := Lib.hid RT
  have SU := Lib.hid SU
  clear hr hr' hcx hcy a1 a2 a3 a4 b1 b2 b3 b4 hz hg hl he hln hxx hg' hl' he' hln' hyy hL
  go_enter Tryz.func24, Tryz.ntmps24
  go_wp2_with fail
  refine (RS.out).mono ?_
  rintro x1 w7 ⟨A, rfl, hrA, hb7⟩
  obtain ⟨w8, X, hw8, hX, hb78, hX8, hc8⟩ := box_num g A n n e w7
  have hd8 := hb7.trans (hb78.mono hb7.size)
  have HW8 := Lib.hid hw8
  have HX := Lib.hid hX
  have HC8 := Lib.hid hc8
  have HRA := Lib.hid (hrA.on hb78)
  clear hw8 hX hc8 hrA
  go_upto_region 2 with fail
  rw [HW8.out, HX.out]
  go_wp2_with fail
  refine (RT.out _ (HL.out.on hd8)).mono ?_
  rintro x2 w9 ⟨A', rfl, hrB, hb9⟩
  obtain ⟨w10, Y, hw10, hY, hb910, hY10, hc10⟩ := box_num g' A' n' n' e' w9
  have hb810 := hb9.trans (hb910.mono hb9.size)
  have HW10 := Lib.hid hw10
  have HY := Lib.hid hY
  have HRB := Lib.hid (hrB.on hb910)
  obtain ⟨p0, p1, p2, _⟩ := HC8.out w10 hb810
  obtain ⟨q0, q1, q2, _⟩ := hc10 w10 (Below.refl _ _)
  have hd10 := hd8.trans (hb810.mono hd8.size)
  clear hw10 hY hc10 hrB
  go_upto_region 3 with fail
  rw [HW10.out, HY.out]
  go_wp2_with fail
  refine (SU.out _ _ _ (HRA.out.on hb810) HRB.out).mono ?_
  rintro x3 w11 ⟨rfl, hb11⟩
  have hd11 := hd10.trans (hb11.mono hd10.size)
  clear p0 p1 p2 q0 q1 q2
  go_wp2_with fail
  go_ret
  exact ⟨rfl, hd11⟩
end Go.Proofs.YtjapgpmoojfhnaaGreatDoor
