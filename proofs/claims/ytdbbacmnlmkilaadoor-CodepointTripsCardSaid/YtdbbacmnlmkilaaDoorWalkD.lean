/- The contract of the reference's 'begins'. -/
import Derived.Test.YtdbbacmnlmkilaaDoorWalkC
import Derived.Test.YtdbbacmnlmkilaaDoorPlain2
namespace Go.Proofs.YtdbbacmnlmkilaaDoor
open Go.RowKit Go.Lib
namespace Cp
theorem val_snoc (v : Nat) (t : List UInt8) (b : UInt8) : val v (t ++ [b]) = 64 * val v t + (b.toNat - 128) := by simp [val]
theorem cont_snoc (t : List UInt8) (b : UInt8) : cont (t ++ [b]) = (cont t && (decide (128 ≤ b.toNat) && decide (b.toNat ≤ 191))) := by simp [cont]
theorem cont_false {t : List UInt8} {k : Nat} {b : UInt8} (h : t[k]? = some b) (hb : b.toNat < 128 ∨ 191 < b.toNat) : cont t = false := by
  unfold cont
  rw [List.all_eq_false]
  exact ⟨b, List.mem_of_getElem? h, by simp; omega⟩
theorem val_lt' : ∀ (t : List UInt8) (v m : Nat), v < 64 ^ m → cont t = true → val v t < 64 ^ (m + t.length)
  | [], v, m, hv, _ => by simpa [val] using hv
  | b :: t, v, m, hv, h => by
    have h' : (128 ≤ b.toNat ∧ b.toNat ≤ 191) ∧ cont t = true := by simpa [cont] using h
    have hv' : 64 * v + (b.toNat - 128) < 64 ^ (m + 1) := by
      rw [Nat.pow_succ]
      generalize 64 ^ m = p at hv ⊢
      omega
    have := val_lt' t (64 * v + (b.toNat - 128)) (m + 1) hv' h'.2
    have e : val v (b :: t) = val (64 * v + (b.toNat - 128)) t := by unfold val; rw [List.foldl_cons]
    rw [e, List.length_cons, show m + (t.length + 1) = m + 1 + t.length by omega]
    exact this
theorem val_lt {v : Nat} (hv : v < 64) (t : List UInt8) (h : cont t = true) : val v t < 64 ^ (t.length + 1) := by
  rw [Nat.add_comm]; exact val_lt' t v 1 (by simpa using hv) h
theorem pow64 {k : Nat} (h : k ≤ 4) : 64 ^ k ≤ 16777216 := by
  match k, h with
  | 0, _ | 1, _ | 2, _ | 3, _ | 4, _ => decide
theorem highs_lt {v m : Nat} (hv : v < 64 ^ m) : ∀ j, highs j v < 64 ^ (m + j)
  | 0 => hv
  | j + 1 => by
    have := highs_lt hv j
    show 64 * highs j v + 63 < 64 ^ (m + j + 1)
    rw [Nat.pow_succ]
    generalize 64 ^ (m + j) = p at this ⊢
    omega
theorem lows_le (v : Nat) : ∀ j, lows j v ≤ highs j v
  | 0 => Nat.le_refl _
  | j + 1 => by have := lows_le v j; show 64 * lows j v ≤ 64 * highs j v + 63; omega
theorem begins_long {c : UInt8} {t : List UInt8} (h : wid c.toNat < t.length + 1) (h0 : 128 ≤ c.toNat ∨ t ≠ []) : begins (c :: t) = (0, 0) := by
  show (if c.toNat < 128 ∧ t = [] then (c.toNat, 1) else if wid c.toNat < t.length + 1 then (0, 0) else _ : Nat × Nat) = _
  rw [if_neg (by rcases h0 with h0 | h0; omega; exact fun hh => h0 hh.2), if_pos h]
theorem begins_notcont {c : UInt8} {t : List UInt8} (h : cont t = false) : begins (c :: t) = (0, 0) := by
  have ht : t ≠ [] := by rintro rfl; simp [cont] at h
  show (if c.toNat < 128 ∧ t = [] then (c.toNat, 1) else if wid c.toNat < t.length + 1 then (0, 0) else if cont t = false then (0, 0) else _ : Nat × Nat) = _
  rw [if_neg (fun hh => ht hh.2), if_pos h]; split <;> rfl
theorem begins_last {c : UInt8} {t : List UInt8} (hc : 128 ≤ c.toNat) (h : t.length + 1 ≤ wid c.toNat) (hct : cont t = true) {lo hi : Nat}
    (hlo : lows (wid c.toNat - (t.length + 1)) (val (headV c.toNat) t) = lo) (hhi : highs (wid c.toNat - (t.length + 1)) (val (headV c.toNat) t) = hi) :
    begins (c :: t) = if outside lo hi (leastV c.toNat) (mostV c.toNat) = true then (0, 0) else (lo, wid c.toNat) := by
  show (if c.toNat < 128 ∧ t = [] then (c.toNat, 1) else if wid c.toNat < t.length + 1 then (0, 0) else if cont t = false then (0, 0) else _ : Nat × Nat) = _
  rw [if_neg (by omega), if_neg (by omega), if_neg (by rw [hct]; simp), hlo, hhi]
theorem head_cases {c : Nat} (h : 192 ≤ c ∧ c < 248) : headV c < 64 ∧ (192 ≤ c ∧ c < 224 ∧ wid c = 2 ∧ headV c = c - 192 ∧ leastV c = 128 ∧ mostV c = 2047 ∨
    224 ≤ c ∧ c < 240 ∧ wid c = 3 ∧ headV c = c - 224 ∧ leastV c = 2048 ∧ mostV c = 65535 ∨ 240 ≤ c ∧ c < 248 ∧ wid c = 4 ∧ headV c = c - 240 ∧ leastV c = 65536 ∧ mostV c = 1114111) := by
  rcases wid_cases c with ⟨hw, h1⟩ | ⟨hw, h1⟩ | ⟨hw, h1⟩ | ⟨hw, h1⟩
  · omega
  · obtain ⟨a, b, d⟩ := cls2 h1; omega
  · obtain ⟨a, b, d⟩ := cls3 h1; omega
  · obtain ⟨a, b, d⟩ := cls4 h1; omega
end Cp

/-- The cell of a byte. -/
theorem byte_at {l : List UInt8} {k : Nat} {u : Value} (h : (byteCells l)[k]? = some u) : ∃ b : UInt8, l[k]? = some b ∧ u = .int .u8 (b.toNat : Int) := by
  simp only [byteCells, List.getElem?_map, Option.map_eq_some_iff] at h
  obtain ⟨b, h1, rfl⟩ := h
  exact ⟨b, h1, rfl⟩

set_option maxHeartbeats 1000000 in
set_option maxRecDepth 100000 in
theorem begins_w1 (x : Nat) (b off cap : Nat) (w : World) (hc : w.cell? ⟨b, off, none⟩ = some (.int .u8 (x : Int))) (hx : x < 128) :
    Calls Tryd.prog 27 #[.slice (some ⟨b, off, none⟩) 1 cap] w fun e w' => e = .returned (.tuple #[.int .i64 x, .int .i64 1]) ∧ w' = w := by
  go_enter Tryd.func27, Tryd.ntmps27
  go_wp2
  go_ret2
  exact ⟨rfl, rfl⟩

set_option maxHeartbeats 1000000 in
set_option maxRecDepth 100000 in
/-- The ways that end ahead of the loops. -/
theorem begins_w0 (x n : Nat) (b off cap : Nat) (w : World) (hc : w.cell? ⟨b, off, none⟩ = some (.int .u8 (x : Int))) (hx : x < 256) (hl : n ≤ 4)
    (hs : (x < 128 ∧ 2 ≤ n) ∨ (128 ≤ x ∧ x < 192) ∨ (248 ≤ x) ∨ (192 ≤ x ∧ x < 224 ∧ 2 < n) ∨ (224 ≤ x ∧ x < 240 ∧ 3 < n)) (hn : 1 ≤ n) :
    Calls Tryd.prog 27 #[.slice (some ⟨b, off, none⟩) n cap] w fun e w' => e = .returned (.tuple #[.int .i64 0, .int .i64 0]) ∧ w' = w := by
  rcases hs with ⟨h0, h1⟩ | hs | hs | hs | hs
  · have h1' : ((n : Int) == 1) = false := by simp; omega
    go_enter Tryd.func27, Tryd.ntmps27
    go_wp2
    go_ret2
    exact ⟨rfl, rfl⟩
  all_goals
    go_enter Tryd.func27, Tryd.ntmps27
    go_wp2
    go_ret2
    exact ⟨rfl, rfl⟩

/-- What comes out of the loops. -/
def Cp.bres (V W L M : Nat) (t : List UInt8) : Nat × Nat :=
  if Cp.cont t = false then (0, 0) else if Cp.outside (Cp.lows (W - (t.length + 1)) (Cp.val V t)) (Cp.highs (W - (t.length + 1)) (Cp.val V t)) L M = true then (0, 0) else (Cp.lows (W - (t.length + 1)) (Cp.val V t), W)
theorem Cp.bres_cont {V W L M : Nat} {t : List UInt8} (h : Cp.cont t = false) : Cp.bres V W L M t = (0, 0) := by simp [Cp.bres, h]
theorem Cp.bres_out {V W L M : Nat} {t : List UInt8} (h : Cp.cont t = true) {n j lo hi : Nat} (hn : t.length + 1 = n) (hj : n + j = W) (hlo : Cp.lows j (Cp.val V t) = lo) (hhi : Cp.highs j (Cp.val V t) = hi)
    (ho : hi < L ∨ M < lo ∨ (55296 ≤ lo ∧ hi ≤ 57343)) : Cp.bres V W L M t = (0, 0) := by
  have e : W - (t.length + 1) = j := by omega
  unfold Cp.bres
  rw [if_neg (by rw [h]; simp), e, hlo, hhi, if_pos (by simp [Cp.outside]; omega)]
theorem Cp.bres_in {V W L M : Nat} {t : List UInt8} (h : Cp.cont t = true) {n j lo hi : Nat} (hn : t.length + 1 = n) (hj : n + j = W) (hlo : Cp.lows j (Cp.val V t) = lo) (hhi : Cp.highs j (Cp.val V t) = hi)
    (ho : ¬ (hi < L ∨ M < lo ∨ (55296 ≤ lo ∧ hi ≤ 57343))) : Cp.bres V W L M t = (lo, W) := by
  have e : W - (t.length + 1) = j := by omega
  unfold Cp.bres
  rw [if_neg (by rw [h]; simp), e, hlo, hhi, if_neg (by simp [Cp.outside]; omega)]
theorem Cp.begins_bres {c : UInt8} {t : List UInt8} (hc : 128 ≤ c.toNat) (h : t.length + 1 ≤ wid c.toNat) : Cp.begins (c :: t) = Cp.bres (headV c.toNat) (wid c.toNat) (leastV c.toNat) (mostV c.toNat) t := by
  unfold Cp.bres
  cases hct : Cp.cont t with
  | false => rw [Cp.begins_notcont hct, if_pos rfl]
  | true => rw [Cp.begins_last hc h hct rfl rfl, if_neg (show ¬ (true = false) by simp)]
theorem ret2 {a b : Nat} {r : Nat × Nat} (h : r = (a, b)) : Ending.returned (.tuple #[.int .i64 (a : Int), .int .i64 (b : Int)]) = Ending.returned (.tuple #[.int .i64 (r.1 : Int), .int .i64 (r.2 : Int)]) := by rw [h]
end Go.Proofs.YtdbbacmnlmkilaaDoor
