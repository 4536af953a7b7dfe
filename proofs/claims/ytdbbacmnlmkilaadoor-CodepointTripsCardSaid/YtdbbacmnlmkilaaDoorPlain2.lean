/- Plain facts on the reference's way of reading one sequence (by the values that bytes can begin), and on the program's test of what can be extended: they agree with the decoder. No program is in sight. -/
import Derived.Test.YtdbbacmnlmkilaaDoorPlain
namespace Go.Proofs.YtdbbacmnlmkilaaDoor.Cp
open Go Go.Lib

/-- The length that a lead byte announces; 0: it is none of two bytes or more. -/
def wid (c : Nat) : Nat := if 192 ≤ c ∧ c < 224 then 2 else if 224 ≤ c ∧ c < 240 then 3 else if 240 ≤ c ∧ c < 248 then 4 else 0
def headV (c : Nat) : Nat := if 192 ≤ c ∧ c < 224 then c - 192 else if 224 ≤ c ∧ c < 240 then c - 224 else if 240 ≤ c ∧ c < 248 then c - 240 else 0
def leastV (c : Nat) : Nat := if 192 ≤ c ∧ c < 224 then 128 else if 224 ≤ c ∧ c < 240 then 2048 else if 240 ≤ c ∧ c < 248 then 65536 else 0
def mostV (c : Nat) : Nat := if 192 ≤ c ∧ c < 224 then 2047 else if 224 ≤ c ∧ c < 240 then 65535 else if 240 ≤ c ∧ c < 248 then 1114111 else 0
def cont (t : List UInt8) : Bool := t.all fun b => decide (128 ≤ b.toNat) && decide (b.toNat ≤ 191)
def val (v : Nat) (t : List UInt8) : Nat := t.foldl (fun v b => 64 * v + (b.toNat - 128)) v
def lows : Nat → Nat → Nat
  | 0, v => v
  | k + 1, v => 64 * lows k v
def highs : Nat → Nat → Nat
  | 0, v => v
  | k + 1, v => 64 * highs k v + 63
/-- The last test: the values between lo and hi. -/
def outside (lo hi least most : Nat) : Bool := decide (hi < least) || decide (most < lo) || (decide (55296 ≤ lo) && decide (hi ≤ 57343))

/-- The reference's 'begins'. -/
def begins : List UInt8 → Nat × Nat
  | [] => (0, 0)
  | c :: t =>
    if c.toNat < 128 ∧ t = [] then (c.toNat, 1)
    else if wid c.toNat < t.length + 1 then (0, 0)
    else if cont t = false then (0, 0)
    else if outside (lows (wid c.toNat - (t.length + 1)) (val (headV c.toNat) t)) (highs (wid c.toNat - (t.length + 1)) (val (headV c.toNat) t)) (leastV c.toNat) (mostV c.toNat) = true then (0, 0)
    else (lows (wid c.toNat - (t.length + 1)) (val (headV c.toNat) t), wid c.toNat)

/-- The reference's 'At', from length k on. -/
def atFrom : Nat → Nat → List UInt8 → Nat × Nat
  | 0, _, _ => (0, 0)
  | f + 1, k, l => if k ≤ l.length then (if (begins (l.take k)).2 = k then begins (l.take k) else atFrom f (k + 1) l) else (0, 0)
def at1 (l : List UInt8) : Nat × Nat := atFrom 4 1 l

theorem begins_snd (c : UInt8) (t : List UInt8) : (begins (c :: t)).2 = 0 ∨ (c.toNat < 128 ∧ t = [] ∧ (begins (c :: t)).2 = 1) ∨ (begins (c :: t)).2 = wid c.toNat := by
  unfold begins
  repeat' split
  all_goals simp_all
theorem begins_ascii {c : UInt8} (h : c.toNat < 128) : begins [c] = (c.toNat, 1) := by simp [begins, h]
theorem begins_ascii_more {c : UInt8} (h : c.toNat < 128) {t : List UInt8} (ht : t ≠ []) : begins (c :: t) = (0, 0) := by
  have hw : wid c.toNat = 0 := by unfold wid; rw [if_neg (by omega), if_neg (by omega), if_neg (by omega)]
  simp [begins, ht, hw]
theorem wid_cases (c : Nat) : (wid c = 0 ∧ (c < 192 ∨ 248 ≤ c)) ∨ (wid c = 2 ∧ 192 ≤ c ∧ c < 224) ∨ (wid c = 3 ∧ 224 ≤ c ∧ c < 240) ∨ (wid c = 4 ∧ 240 ≤ c ∧ c < 248) := by
  unfold wid; repeat' split
  all_goals omega

theorem decodeL1 (a : UInt8) (t : List UInt8) : decodeL (a :: t) = decodeN (t.length + 1) a.toNat (t.getD 0 0).toNat (t.getD 1 0).toNat (t.getD 2 0).toNat := by
  rw [decodeL_N]; simp [List.getD]

theorem begins2 (a b : UInt8) (h : 192 ≤ a.toNat ∧ a.toNat < 224) :
    begins [a, b] = if 128 ≤ b.toNat ∧ b.toNat ≤ 191 ∧ 128 ≤ 64 * (a.toNat - 192) + (b.toNat - 128) then (64 * (a.toNat - 192) + (b.toNat - 128), 2) else (0, 0) := by
  have hw : wid a.toNat = 2 := by unfold wid; rw [if_pos h]
  have hb := b.toNat_lt
  simp only [begins, hw, headV, leastV, mostV, if_pos h, cont, val, List.foldl, List.all_cons, List.all_nil, List.length_cons, List.length_nil, lows, highs, outside, Nat.sub_self, Nat.zero_add, Bool.and_true]
  rw [if_neg (by simp), if_neg (by omega)]
  by_cases h1 : 128 ≤ b.toNat ∧ b.toNat ≤ 191
  · rw [if_neg (by simp; omega)]
    by_cases h2 : 128 ≤ 64 * (a.toNat - 192) + (b.toNat - 128)
    · rw [if_neg (by simp; omega), if_pos ⟨h1.1, h1.2, h2⟩]
    · rw [if_pos (by simp; omega), if_neg (by omega)]
  · rw [if_pos (by simp; omega), if_neg (by omega)]

theorem begins3 (a b c : UInt8) (h : 224 ≤ a.toNat ∧ a.toNat < 240) :
    begins [a, b, c] = if (128 ≤ b.toNat ∧ b.toNat ≤ 191) ∧ (128 ≤ c.toNat ∧ c.toNat ≤ 191) ∧ 2048 ≤ 64 * (64 * (a.toNat - 224) + (b.toNat - 128)) + (c.toNat - 128) ∧
        ¬ (55296 ≤ 64 * (64 * (a.toNat - 224) + (b.toNat - 128)) + (c.toNat - 128) ∧ 64 * (64 * (a.toNat - 224) + (b.toNat - 128)) + (c.toNat - 128) ≤ 57343)
      then (64 * (64 * (a.toNat - 224) + (b.toNat - 128)) + (c.toNat - 128), 3) else (0, 0) := by
  have hn : ¬ (192 ≤ a.toNat ∧ a.toNat < 224) := by omega
  have hw : wid a.toNat = 3 := by unfold wid; rw [if_neg hn, if_pos h]
  have hb := b.toNat_lt
  have hc := c.toNat_lt
  simp only [begins, hw, headV, leastV, mostV, if_neg hn, if_pos h, cont, val, List.foldl, List.all_cons, List.all_nil, List.length_cons, List.length_nil, lows, highs, outside, Nat.sub_self, Nat.zero_add, Bool.and_true, Nat.reduceAdd]
  rw [if_neg (by simp), if_neg (by omega)]
  by_cases h1 : (128 ≤ b.toNat ∧ b.toNat ≤ 191) ∧ (128 ≤ c.toNat ∧ c.toNat ≤ 191)
  · rw [if_neg (by simp; omega)]
    have hv : 64 * (64 * (a.toNat - 224) + (b.toNat - 128)) + (c.toNat - 128) ≤ 65535 := by omega
    generalize 64 * (64 * (a.toNat - 224) + (b.toNat - 128)) + (c.toNat - 128) = v at *
    by_cases h2 : 2048 ≤ v ∧ ¬ (55296 ≤ v ∧ v ≤ 57343)
    · rw [if_neg (by simp; omega), if_pos ⟨h1.1, h1.2, h2.1, h2.2⟩]
    · rw [if_pos (by simp; omega), if_neg (by omega)]
  · rw [if_pos (by simp; omega), if_neg (by omega)]

theorem begins4 (a b c d : UInt8) (h : 240 ≤ a.toNat ∧ a.toNat < 248) :
    begins [a, b, c, d] = if (128 ≤ b.toNat ∧ b.toNat ≤ 191) ∧ (128 ≤ c.toNat ∧ c.toNat ≤ 191) ∧ (128 ≤ d.toNat ∧ d.toNat ≤ 191) ∧
        65536 ≤ 64 * (64 * (64 * (a.toNat - 240) + (b.toNat - 128)) + (c.toNat - 128)) + (d.toNat - 128) ∧ 64 * (64 * (64 * (a.toNat - 240) + (b.toNat - 128)) + (c.toNat - 128)) + (d.toNat - 128) ≤ 1114111
      then (64 * (64 * (64 * (a.toNat - 240) + (b.toNat - 128)) + (c.toNat - 128)) + (d.toNat - 128), 4) else (0, 0) := by
  have hn : ¬ (192 ≤ a.toNat ∧ a.toNat < 224) := by omega
  have hn' : ¬ (224 ≤ a.toNat ∧ a.toNat < 240) := by omega
  have hw : wid a.toNat = 4 := by unfold wid; rw [if_neg hn, if_neg hn', if_pos h]
  simp only [begins, hw, headV, leastV, mostV, if_neg hn, if_neg hn', if_pos h, cont, val, List.foldl, List.all_cons, List.all_nil, List.length_cons, List.length_nil, lows, highs, outside, Nat.sub_self, Nat.zero_add, Bool.and_true, Nat.reduceAdd]
  rw [if_neg (by simp), if_neg (by omega)]
  by_cases h1 : (128 ≤ b.toNat ∧ b.toNat ≤ 191) ∧ (128 ≤ c.toNat ∧ c.toNat ≤ 191) ∧ (128 ≤ d.toNat ∧ d.toNat ≤ 191)
  · rw [if_neg (by simp; omega)]
    generalize 64 * (64 * (64 * (a.toNat - 240) + (b.toNat - 128)) + (c.toNat - 128)) + (d.toNat - 128) = v at *
    by_cases h2 : 65536 ≤ v ∧ v ≤ 1114111
    · rw [if_neg (by simp; omega), if_pos ⟨h1.1, h1.2.1, h1.2.2, h2.1, h2.2⟩]
    · rw [if_pos (by simp; omega), if_neg (by omega)]
  · rw [if_pos (by simp; omega), if_neg (by omega)]

/-- 'At' tries the announced length and no other. -/
theorem begins_take_snd (c : UInt8) (t : List UInt8) (k : Nat) (hk : 1 ≤ k) (h : (begins ((c :: t).take k)).2 = k) : (c.toNat < 128 ∧ k = 1) ∨ (128 ≤ c.toNat ∧ k = wid c.toNat) := by
  obtain ⟨k, rfl⟩ : ∃ j, k = j + 1 := ⟨k - 1, by omega⟩
  rw [List.take_succ_cons] at h
  by_cases hc : c.toNat < 128
  · left
    refine ⟨hc, ?_⟩
    by_cases ht : t.take k = []
    · rw [ht, begins_ascii hc] at h; exact h.symm
    · rw [begins_ascii_more hc ht] at h; simp at h
  · right
    refine ⟨by omega, ?_⟩
    rcases begins_snd c (t.take k) with h1 | ⟨h1, _, _⟩ | h1
    · omega
    · omega
    · omega

theorem atFrom_eq (c : UInt8) (t : List UInt8) (w : Nat) (hw : (c.toNat < 128 ∧ w = 1) ∨ (128 ≤ c.toNat ∧ w = wid c.toNat)) :
    ∀ f k, 1 ≤ k → (k ≤ w → w < k + f) → atFrom f k (c :: t) = if k ≤ w ∧ w ≤ t.length + 1 ∧ (begins ((c :: t).take w)).2 = w then begins ((c :: t).take w) else (0, 0)
  | 0, k, _, h => by rw [if_neg (by omega)]; rfl
  | f + 1, k, hk, h => by
    unfold atFrom
    by_cases h1 : k ≤ (c :: t).length
    · rw [if_pos h1]
      by_cases h2 : (begins ((c :: t).take k)).2 = k
      · have hkw : k = w := by
          rcases begins_take_snd c t k hk h2 with h3 | h3 <;> rcases hw with h4 | h4 <;> omega
        subst hkw
        rw [if_pos h2, if_pos ⟨Nat.le_refl _, by simpa using h1, h2⟩]
      · rw [if_neg h2, atFrom_eq c t w hw f (k + 1) (by omega) (by omega)]
        by_cases hkw : k = w
        · subst hkw
          rw [if_neg (by omega), if_neg (fun hh => h2 hh.2.2)]
        · by_cases h5 : k + 1 ≤ w ∧ w ≤ t.length + 1 ∧ (begins ((c :: t).take w)).2 = w
          · rw [if_pos h5, if_pos ⟨by omega, h5.2⟩]
          · rw [if_neg h5, if_neg (fun hh => h5 ⟨by omega, hh.2⟩)]
    · rw [if_neg h1, if_neg (by simp at h1; omega)]

set_option maxHeartbeats 1000000 in
/-- ████ The reference's 'At' is the decoder. -/
theorem at1_eq (l : List UInt8) (hne : l ≠ []) : at1 l = if bad l = true then (0, 0) else decodeL l := by
  cases l with
  | nil => exact absurd rfl hne
  | cons c t =>
    have hc := c.toNat_lt
    unfold at1
    by_cases ha : c.toNat < 128
    · rw [atFrom_eq c t 1 (.inl ⟨ha, rfl⟩) 4 1 (by omega) (by omega)]
      have e : (c :: t).take 1 = [c] := by simp
      have hd : decodeL (c :: t) = (c.toNat, 1) := by rw [decodeL1]; unfold decodeN; rw [if_pos ha]
      have hb : bad (c :: t) = false := by rw [bad_false, hd]; simp only; omega
      rw [e, begins_ascii ha, if_pos ⟨by omega, by omega, rfl⟩, hb, hd]; rfl
    · rw [atFrom_eq c t (wid c.toNat) (.inr ⟨by omega, rfl⟩) 4 1 (by omega) (by rcases wid_cases c.toNat with h | h | h | h <;> omega)]
      rcases wid_cases c.toNat with ⟨hw, h⟩ | ⟨hw, h⟩ | ⟨hw, h⟩ | ⟨hw, h⟩
      · rw [hw, if_neg (by omega)]
        have hd : decodeL (c :: t) = (65533, 1) := by
          rw [decodeL1]; unfold decodeN
          rw [if_neg ha, if_neg (by omega), if_neg (by omega), if_neg (by omega)]
        rw [if_pos (by rw [bad_iff, hd]; exact ⟨rfl, rfl⟩)]
      · rw [hw]
        match t with
        | [] =>
          rw [if_neg (by simp)]
          have hd : decodeL [c] = (65533, 1) := by
            rw [decodeL1]; unfold decodeN
            rw [if_neg ha, if_neg (by simp), if_neg (by simp), if_neg (by simp)]
          rw [if_pos (by rw [bad_iff, hd]; exact ⟨rfl, rfl⟩)]
        | b :: u =>
          have hb := b.toNat_lt
          have e : (c :: b :: u).take 2 = [c, b] := by simp
          have hd : decodeL (c :: b :: u) = if 128 ≤ b.toNat ∧ b.toNat ≤ 191 ∧ 128 ≤ 64 * (c.toNat - 192) + (b.toNat - 128) then (64 * (c.toNat - 192) + (b.toNat - 128), 2) else (65533, 1) := by
            rw [decodeL1]; simp only [List.getD_cons_zero, List.length_cons]
            unfold decodeN
            rw [if_neg ha]
            by_cases h1 : 128 ≤ b.toNat ∧ b.toNat ≤ 191
            · rw [if_pos (by omega)]
              by_cases h2 : 128 ≤ 64 * (c.toNat - 192) + (b.toNat - 128)
              · have ev : c.toNat % 32 * 64 + b.toNat % 64 = 64 * (c.toNat - 192) + (b.toNat - 128) := by omega
                rw [ev, if_pos h2, if_pos ⟨h1.1, h1.2, h2⟩]
              · rw [if_neg (by omega), if_neg (by omega)]
            · rw [if_neg (by omega), if_neg (by omega), if_neg (by omega), if_neg (by omega)]
          rw [e, begins2 c b h, hd]
          by_cases h1 : 128 ≤ b.toNat ∧ b.toNat ≤ 191 ∧ 128 ≤ 64 * (c.toNat - 192) + (b.toNat - 128)
          · rw [if_pos h1] at hd
            rw [if_pos h1, if_pos ⟨by omega, by simp, rfl⟩, if_neg (by rw [bad_iff, hd]; simp), if_pos h1]
          · rw [if_neg h1] at hd
            rw [if_neg h1, if_neg (by simp), if_pos (by rw [bad_iff, hd]; exact ⟨rfl, rfl⟩)]
      · rw [hw]
        match t with
        | [] | [b] =>
          rw [if_neg (by simp)]
          have hd : decodeN 1 c.toNat 0 0 0 = (65533, 1) ∧ ∀ b : UInt8, decodeN 2 c.toNat b.toNat 0 0 = (65533, 1) := by
            refine ⟨?_, fun b => ?_⟩
            all_goals
              unfold decodeN
              rw [if_neg ha, if_neg (by omega), if_neg (by omega), if_neg (by omega)]
          rw [if_pos (by rw [bad_iff, decodeL1]; simp [hd])]
        | b :: d :: u =>
          have hb := b.toNat_lt
          have hd' := d.toNat_lt
          have e : (c :: b :: d :: u).take 3 = [c, b, d] := by simp
          have hd : decodeL (c :: b :: d :: u) = if (128 ≤ b.toNat ∧ b.toNat ≤ 191) ∧ (128 ≤ d.toNat ∧ d.toNat ≤ 191) ∧ 2048 ≤ 64 * (64 * (c.toNat - 224) + (b.toNat - 128)) + (d.toNat - 128) ∧
              ¬ (55296 ≤ 64 * (64 * (c.toNat - 224) + (b.toNat - 128)) + (d.toNat - 128) ∧ 64 * (64 * (c.toNat - 224) + (b.toNat - 128)) + (d.toNat - 128) ≤ 57343)
              then (64 * (64 * (c.toNat - 224) + (b.toNat - 128)) + (d.toNat - 128), 3) else (65533, 1) := by
            rw [decodeL1]; simp only [List.getD_cons_zero, List.getD_cons_succ, List.length_cons]
            unfold decodeN
            rw [if_neg ha, if_neg (by omega)]
            by_cases h1 : (128 ≤ b.toNat ∧ b.toNat ≤ 191) ∧ (128 ≤ d.toNat ∧ d.toNat ≤ 191)
            · rw [if_pos (by omega)]
              have ev : c.toNat % 16 * 4096 + b.toNat % 64 * 64 + d.toNat % 64 = 64 * (64 * (c.toNat - 224) + (b.toNat - 128)) + (d.toNat - 128) := by omega
              have hv : 64 * (64 * (c.toNat - 224) + (b.toNat - 128)) + (d.toNat - 128) ≤ 65535 := by omega
              rw [ev]
              generalize 64 * (64 * (c.toNat - 224) + (b.toNat - 128)) + (d.toNat - 128) = v at *
              by_cases h2 : 2048 ≤ v ∧ ¬ (55296 ≤ v ∧ v ≤ 57343)
              · rw [if_pos (by omega), if_pos ⟨h1.1, h1.2, h2.1, h2.2⟩]
              · rw [if_neg (by omega), if_neg (by omega)]
            · rw [if_neg (by omega), if_neg (by omega), if_neg (by omega)]
          rw [e, begins3 c b d h, hd]
          by_cases h1 : (128 ≤ b.toNat ∧ b.toNat ≤ 191) ∧ (128 ≤ d.toNat ∧ d.toNat ≤ 191) ∧ 2048 ≤ 64 * (64 * (c.toNat - 224) + (b.toNat - 128)) + (d.toNat - 128) ∧
              ¬ (55296 ≤ 64 * (64 * (c.toNat - 224) + (b.toNat - 128)) + (d.toNat - 128) ∧ 64 * (64 * (c.toNat - 224) + (b.toNat - 128)) + (d.toNat - 128) ≤ 57343)
          · rw [if_pos h1] at hd
            rw [if_pos h1, if_pos ⟨by omega, by simp, rfl⟩, if_neg (by rw [bad_iff, hd]; simp), if_pos h1]
          · rw [if_neg h1] at hd
            rw [if_neg h1, if_neg (by simp), if_pos (by rw [bad_iff, hd]; exact ⟨rfl, rfl⟩)]
      · rw [hw]
        match t with
        | [] | [b] | [b, d] =>
          rw [if_neg (by simp)]
          have hd : decodeN 1 c.toNat 0 0 0 = (65533, 1) ∧ (∀ b : UInt8, decodeN 2 c.toNat b.toNat 0 0 = (65533, 1)) ∧ (∀ b d : UInt8, decodeN 3 c.toNat b.toNat d.toNat 0 = (65533, 1)) := by
            refine ⟨?_, fun b => ?_, fun b d => ?_⟩
            all_goals
              unfold decodeN
              rw [if_neg ha, if_neg (by omega), if_neg (by omega), if_neg (by omega)]
          rw [if_pos (by rw [bad_iff, decodeL1]; simp [hd])]
        | b :: d :: g :: u =>
          have hb := b.toNat_lt
          have hd' := d.toNat_lt
          have hg' := g.toNat_lt
          have e : (c :: b :: d :: g :: u).take 4 = [c, b, d, g] := by simp
          have hd : decodeL (c :: b :: d :: g :: u) = if (128 ≤ b.toNat ∧ b.toNat ≤ 191) ∧ (128 ≤ d.toNat ∧ d.toNat ≤ 191) ∧ (128 ≤ g.toNat ∧ g.toNat ≤ 191) ∧
              65536 ≤ 64 * (64 * (64 * (c.toNat - 240) + (b.toNat - 128)) + (d.toNat - 128)) + (g.toNat - 128) ∧ 64 * (64 * (64 * (c.toNat - 240) + (b.toNat - 128)) + (d.toNat - 128)) + (g.toNat - 128) ≤ 1114111
              then (64 * (64 * (64 * (c.toNat - 240) + (b.toNat - 128)) + (d.toNat - 128)) + (g.toNat - 128), 4) else (65533, 1) := by
            rw [decodeL1]; simp only [List.getD_cons_zero, List.getD_cons_succ, List.length_cons]
            unfold decodeN
            rw [if_neg ha, if_neg (by omega), if_neg (by omega)]
            by_cases h1 : (128 ≤ b.toNat ∧ b.toNat ≤ 191) ∧ (128 ≤ d.toNat ∧ d.toNat ≤ 191) ∧ (128 ≤ g.toNat ∧ g.toNat ≤ 191)
            · rw [if_pos (by omega)]
              have ev : c.toNat % 8 * 262144 + b.toNat % 64 * 4096 + d.toNat % 64 * 64 + g.toNat % 64 = 64 * (64 * (64 * (c.toNat - 240) + (b.toNat - 128)) + (d.toNat - 128)) + (g.toNat - 128) := by omega
              rw [ev]
              generalize 64 * (64 * (64 * (c.toNat - 240) + (b.toNat - 128)) + (d.toNat - 128)) + (g.toNat - 128) = v at *
              by_cases h2 : 65536 ≤ v ∧ v ≤ 1114111
              · rw [if_pos (by omega), if_pos ⟨h1.1, h1.2.1, h1.2.2, h2.1, h2.2⟩]
              · rw [if_neg (by omega), if_neg (by omega)]
            · rw [if_neg (by omega), if_neg (by omega)]
          rw [e, begins4 c b d g h, hd]
          by_cases h1 : (128 ≤ b.toNat ∧ b.toNat ≤ 191) ∧ (128 ≤ d.toNat ∧ d.toNat ≤ 191) ∧ (128 ≤ g.toNat ∧ g.toNat ≤ 191) ∧
              65536 ≤ 64 * (64 * (64 * (c.toNat - 240) + (b.toNat - 128)) + (d.toNat - 128)) + (g.toNat - 128) ∧ 64 * (64 * (64 * (c.toNat - 240) + (b.toNat - 128)) + (d.toNat - 128)) + (g.toNat - 128) ≤ 1114111
          · rw [if_pos h1] at hd
            rw [if_pos h1, if_pos ⟨by omega, by simp, rfl⟩, if_neg (by rw [bad_iff, hd]; simp), if_pos h1]
          · rw [if_neg h1] at hd
            rw [if_neg h1, if_neg (by simp), if_pos (by rw [bad_iff, hd]; exact ⟨rfl, rfl⟩)]

/-- The program's test: may these bytes (one to three, no whole sequence) be extended? -/
def lowB (c : Nat) : Nat := if c = 224 then 160 else if c = 240 then 144 else 128
def highB (c : Nat) : Nat := if c = 237 then 159 else if c = 244 then 143 else 191
def sizeB (c : Nat) : Nat := if 194 ≤ c ∧ c ≤ 223 then 2 else if 224 ≤ c ∧ c ≤ 239 then 3 else if 240 ≤ c ∧ c ≤ 244 then 4 else 0
def ext (l : List UInt8) : Bool :=
  match l with
  | [] => false
  | [a] => decide (1 < sizeB a.toNat)
  | [a, b] => decide (2 < sizeB a.toNat ∧ lowB a.toNat ≤ b.toNat ∧ b.toNat ≤ highB a.toNat)
  | a :: b :: c :: t => decide (t.length + 3 < sizeB a.toNat ∧ (lowB a.toNat ≤ b.toNat ∧ b.toNat ≤ highB a.toNat) ∧ 128 ≤ c.toNat ∧ c.toNat ≤ 191)

theorem begins_gen (c : UInt8) (t : List UInt8) (hc : 128 ≤ c.toNat) : (begins (c :: t)).2 =
    if t.length + 1 ≤ wid c.toNat ∧ cont t = true ∧ outside (lows (wid c.toNat - (t.length + 1)) (val (headV c.toNat) t)) (highs (wid c.toNat - (t.length + 1)) (val (headV c.toNat) t)) (leastV c.toNat) (mostV c.toNat) = false
    then wid c.toNat else 0 := by
  show (if c.toNat < 128 ∧ t = [] then (c.toNat, 1) else if wid c.toNat < t.length + 1 then (0, 0) else _ : Nat × Nat).2 = _
  rw [if_neg (by omega)]
  by_cases h1 : wid c.toNat < t.length + 1
  · rw [if_pos h1, if_neg (by omega)]
  · rw [if_neg h1]
    cases h2 : cont t with
    | false => simp
    | true =>
      cases h3 : outside (lows (wid c.toNat - (t.length + 1)) (val (headV c.toNat) t)) (highs (wid c.toNat - (t.length + 1)) (val (headV c.toNat) t)) (leastV c.toNat) (mostV c.toNat) with
      | true => simp
      | false => simp; omega
theorem cls2 {c : Nat} (h : 192 ≤ c ∧ c < 224) : headV c = c - 192 ∧ leastV c = 128 ∧ mostV c = 2047 := by
  unfold headV leastV mostV; rw [if_pos h, if_pos h, if_pos h]; exact ⟨rfl, rfl, rfl⟩
theorem cls3 {c : Nat} (h : 224 ≤ c ∧ c < 240) : headV c = c - 224 ∧ leastV c = 2048 ∧ mostV c = 65535 := by
  unfold headV leastV mostV; rw [if_neg (by omega), if_pos h, if_neg (by omega), if_pos h, if_neg (by omega), if_pos h]; exact ⟨rfl, rfl, rfl⟩
theorem cls4 {c : Nat} (h : 240 ≤ c ∧ c < 248) : headV c = c - 240 ∧ leastV c = 65536 ∧ mostV c = 1114111 := by
  unfold headV leastV mostV
  rw [if_neg (by omega), if_neg (by omega), if_pos h, if_neg (by omega), if_neg (by omega), if_pos h, if_neg (by omega), if_neg (by omega), if_pos h]; exact ⟨rfl, rfl, rfl⟩
theorem outside_iff (a b c d : Nat) : outside a b c d = false ↔ ¬ (b < c ∨ d < a ∨ (55296 ≤ a ∧ b ≤ 57343)) := by
  simp [outside]; omega
theorem sizeB_eq (c : Nat) : sizeB c = if 194 ≤ c ∧ c ≤ 244 then wid c else 0 := by
  unfold sizeB wid; repeat' split
  all_goals omega
theorem lowB_eq (c : Nat) : (c = 224 ∧ lowB c = 160) ∨ (c = 240 ∧ lowB c = 144) ∨ (c ≠ 224 ∧ c ≠ 240 ∧ lowB c = 128) := by
  unfold lowB
  repeat' split
  all_goals omega
theorem highB_eq (c : Nat) : (c = 237 ∧ highB c = 159) ∨ (c = 244 ∧ highB c = 143) ∨ (c ≠ 237 ∧ c ≠ 244 ∧ highB c = 191) := by
  unfold highB
  repeat' split
  all_goals omega

set_option maxHeartbeats 2000000 in
/-- The two tests agree. -/
theorem ext_eq (l : List UInt8) (h1 : 1 ≤ l.length) (h3 : l.length ≤ 3) : ext l = decide (l.length < (begins l).2) := by
  cases l with
  | nil => simp at h1
  | cons a t =>
    have ha := a.toNat_lt
    have hs := sizeB_eq a.toNat
    have hl := lowB_eq a.toNat
    have hh := highB_eq a.toNat
    by_cases hc : a.toNat < 128
    · have hsz : sizeB a.toNat = 0 := by rw [hs, if_neg (by omega)]
      have hbg : (begins (a :: t)).2 ≤ 1 := by
        by_cases ht : t = []
        · subst ht; rw [begins_ascii hc]; exact Nat.le_refl _
        · rw [begins_ascii_more hc ht]; exact Nat.zero_le _
      have e2 : decide ((a :: t).length < (begins (a :: t)).2) = false := by simp; omega
      rw [e2]
      match t with
      | [] => simp [ext, hsz]
      | [b] => simp [ext, hsz]
      | b :: c :: u => simp [ext, hsz]
    · have hbg := begins_gen a t (by omega)
      match t with
      | [] =>
        simp only [ext, List.length_cons, List.length_nil, decide_eq_decide]
        rw [hbg]
        simp only [cont, val, List.foldl, List.all_nil, List.length_nil, outside_iff]
        rcases wid_cases a.toNat with ⟨hw, h⟩ | ⟨hw, h⟩ | ⟨hw, h⟩ | ⟨hw, h⟩
        · rw [hw, if_neg (by omega)]; rw [hw] at hs; split at hs <;> omega
        · obtain ⟨p, q, r⟩ := cls2 h
          rw [hw, p, q, r]; rw [hw] at hs; simp only [lows, highs, Nat.reduceSub, Nat.reduceAdd, true_and]; split at hs <;> split <;> omega
        · obtain ⟨p, q, r⟩ := cls3 h
          rw [hw, p, q, r]; rw [hw] at hs; simp only [lows, highs, Nat.reduceSub, Nat.reduceAdd, true_and]; split at hs <;> split <;> omega
        · obtain ⟨p, q, r⟩ := cls4 h
          rw [hw, p, q, r]; rw [hw] at hs; simp only [lows, highs, Nat.reduceSub, Nat.reduceAdd, true_and]; split at hs <;> split <;> omega
      | [b] =>
        have hb := b.toNat_lt
        simp only [ext, List.length_cons, List.length_nil, decide_eq_decide]
        rw [hbg]
        simp only [cont, val, List.foldl, List.all_nil, List.all_cons, List.length_nil, List.length_cons, outside_iff, Bool.and_true, Bool.and_eq_true, decide_eq_true_eq]
        rcases wid_cases a.toNat with ⟨hw, h⟩ | ⟨hw, h⟩ | ⟨hw, h⟩ | ⟨hw, h⟩
        · rw [hw, if_neg (by omega)]; rw [hw] at hs; split at hs <;> omega
        · obtain ⟨p, q, r⟩ := cls2 h
          rw [hw, p, q, r]; rw [hw] at hs; simp only [lows, highs, Nat.reduceSub, Nat.reduceAdd]; split at hs <;> split <;> omega
        · obtain ⟨p, q, r⟩ := cls3 h
          rw [hw, p, q, r]; rw [hw] at hs; simp only [lows, highs, Nat.reduceSub, Nat.reduceAdd]; split at hs <;> split <;> omega
        · obtain ⟨p, q, r⟩ := cls4 h
          rw [hw, p, q, r]; rw [hw] at hs; simp only [lows, highs, Nat.reduceSub, Nat.reduceAdd]; split at hs <;> split <;> omega
      | b :: c :: u =>
        have hu : u = [] := List.eq_nil_of_length_eq_zero (by simp only [List.length_cons] at h3; omega)
        subst hu
        have hb := b.toNat_lt
        have hcc := c.toNat_lt
        simp only [ext, List.length_cons, List.length_nil, decide_eq_decide]
        rw [hbg]
        simp only [cont, val, List.foldl, List.all_nil, List.all_cons, List.length_nil, List.length_cons, outside_iff, Bool.and_true, Bool.and_eq_true, decide_eq_true_eq]
        rcases wid_cases a.toNat with ⟨hw, h⟩ | ⟨hw, h⟩ | ⟨hw, h⟩ | ⟨hw, h⟩
        · rw [hw, if_neg (by omega)]; rw [hw] at hs; split at hs <;> omega
        · obtain ⟨p, q, r⟩ := cls2 h
          rw [hw, p, q, r]; rw [hw] at hs; simp only [lows, highs, Nat.reduceSub, Nat.reduceAdd]; split at hs <;> split <;> omega
        · obtain ⟨p, q, r⟩ := cls3 h
          rw [hw, p, q, r]; rw [hw] at hs; simp only [lows, highs, Nat.reduceSub, Nat.reduceAdd]; split at hs <;> split <;> omega
        · obtain ⟨p, q, r⟩ := cls4 h
          rw [hw, p, q, r]; rw [hw] at hs; simp only [lows, highs, Nat.reduceSub, Nat.reduceAdd]; split at hs <;> split <;> omega

#print axioms ext_eq
#print axioms at1_eq
end Go.Proofs.YtdbbacmnlmkilaaDoor.Cp
