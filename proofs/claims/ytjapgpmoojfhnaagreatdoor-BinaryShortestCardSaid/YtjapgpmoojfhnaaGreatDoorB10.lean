/- law03's Text: a canonical integer text of at most 400 digits. integer's trim and read at canonical texts. integer's short: a list of digits divided by 256. integer's Valid and Magnitude at canonical texts. binary.Of: the bytes of a magnitude gathered. binary.Of at canonical texts. binary.Of at nought. ref03's Of at canonical texts: the bytes of a text behind its sign. Rows of decimal digits, least significant first: their values and their order. ref03's size: rows of digits compared as numbers. ref03's minus: a row of digits less another. ref03's signed at a row without a sign. -/
import Derived.Test.YtjapgpmoojfhnaaGreatDoorB09
namespace Go.Proofs.YtjapgpmoojfhnaaGreatDoor
open Go.RowKit Go.Lib

/-- Digits that Text has gathered. -/
def GoodT (l : List Nat) : Prop := (∀ x ∈ l, 48 ≤ x ∧ x ≤ 57) ∧ l.head? ≠ some 48
theorem GoodT.nil : GoodT [] := ⟨by simp, by simp⟩
theorem GoodT.take {l : List Nat} (h : GoodT l) (k : Nat) (hk : 0 < k) : GoodT (l.take k) := by
  refine ⟨fun x hx => h.1 x (List.mem_of_mem_take hx), ?_⟩
  rw [List.head?_take, if_neg (by omega)]
  exact h.2
/-- What Text holds between its loops. -/
def HeldT (X : Nat) (g : Bool) (D : ByteArray) (n : Nat) (w : World) (N : Nat) (v : Value) (wx : World) : Prop :=
  ∃ acc : List Nat, GoodT acc ∧ acc.length ≤ N ∧ wx.heap[X]? = some (.cells #[.bool g, .string D, .int .u16 (n : Int)] 72 (0, 0)) ∧ wx.ownsRow (X + 1) 5 1 v acc.length (u8s acc) ∧ X + 1 ≤ wx.heap.size ∧ Below X w wx
theorem HeldT.mono {X : Nat} {g : Bool} {D : ByteArray} {n : Nat} {w : World} {N M : Nat} {v : Value} {wx : World} (h : HeldT X g D n w N v wx) (hm : N ≤ M) : HeldT X g D n w M v wx := by
  obtain ⟨acc, h1, h2, h3⟩ := h
  exact ⟨acc, h1, by omega, h3⟩
end Go.Proofs.YtjapgpmoojfhnaaGreatDoor

namespace Go.Proofs.YtjapgpmoojfhnaaGreatDoor
open Go.RowKit Go.Lib

/-- The digits that are left where the leading noughts (the last in the list) are taken off. -/
def Trimmed (l : List Nat) (n m : Nat) : Prop := m ≤ n ∧ (m = 0 ∨ ∃ d, l[m - 1]? = some d ∧ d ≠ 0) ∧ ∀ j, m ≤ j → j < n → l[j]? = some 0
theorem u8s_set (l : List Nat) (q x : Nat) : (u8s (l.set q x)).toArray = (u8s l).toArray.setIfInBounds q (.int .u8 (x : Int)) := by
  rw [u8s, u8s, List.setIfInBounds_toArray, List.map_set]
/-- What integer.read wants of a text that it takes. -/
structure ReadPre (s T : ByteArray) (g : Bool) : Prop where
  len : g = true → 1 < s.size
  head : ∀ h : 1 < s.size, (((s[0]'(by omega)).toNat : Int) == 45) = g
  cut : g = true → s.extract 1 s.size = T
  whole : g = false → s = T
  pos : 0 < T.size
  le : T.size ≤ 400
  digs : ∀ k (h : k < T.size), 48 ≤ (T[k]'h).toNat ∧ (T[k]'h).toNat ≤ 57
  one : ∀ h : 0 < T.size, (((T[0]'h).toNat : Int) == 48) = true → ¬ 1 < s.size
/-- A text's digits, least significant first. -/
def ldig (T : ByteArray) : List Nat := (T.data.toList.map fun b => b.toNat - 48).reverse
end Go.Proofs.YtjapgpmoojfhnaaGreatDoor

namespace Go.Proofs.YtjapgpmoojfhnaaGreatDoor
open Go.RowKit Go.Lib

/-- The value of digits, least significant first. -/
def dv : List Nat → Nat
  | [] => 0
  | d :: l => d + 10 * dv l
theorem dv_drop {l : List Nat} {k d : Nat} (h : l[k]? = some d) : dv (l.drop k) = d + 10 * dv (l.drop (k + 1)) := by
  have hk : k < l.length := by
    rcases Nat.lt_or_ge k l.length with h1 | h1
    · exact h1
    · rw [List.getElem?_eq_none h1] at h; cases h
  rw [List.drop_eq_getElem_cons hk]
  have : l[k] = d := by rw [List.getElem?_eq_getElem hk] at h; exact Option.some.inj h
  rw [this]
  rfl
theorem dv_zeros : ∀ (l : List Nat), (∀ x ∈ l, x = 0) → dv l = 0
  | [], _ => rfl
  | d :: l, h => by
    rw [dv, dv_zeros l (fun x hx => h x (by simp [hx])), h d (by simp)]
theorem dv_append : ∀ (a b : List Nat), dv (a ++ b) = dv a + 10 ^ a.length * dv b
  | [], b => by simp [dv]
  | d :: a, b => by
    rw [List.cons_append, dv, dv, dv_append a b, List.length_cons, Nat.pow_succ]
    rw [Nat.mul_add, Nat.mul_comm (10 ^ a.length) 10, Nat.mul_assoc]
    omega
theorem dv_trim {l : List Nat} {m : Nat} (h : Trimmed l l.length m) : dv (l.take m) = dv l := by
  have e : l = l.take m ++ l.drop m := (List.take_append_drop m l).symm
  have hz : dv (l.drop m) = 0 := dv_zeros _ fun x hx => by
    obtain ⟨i, hi⟩ := List.mem_iff_getElem?.1 hx
    rw [List.getElem?_drop] at hi
    have hlt : m + i < l.length := by
      rcases Nat.lt_or_ge (m + i) l.length with h1 | h1
      · exact h1
      · rw [List.getElem?_eq_none h1] at hi; cases hi
    have := h.2.2 (m + i) (by omega) hlt
    rw [this] at hi
    exact (Option.some.inj hi).symm
  have h2 := dv_append (l.take m) (l.drop m)
  rw [← e, hz] at h2
  omega
/-- No nought leads (none is last in the list). -/
def NoLead (l : List Nat) : Prop := l = [] ∨ ∃ d, l[l.length - 1]? = some d ∧ d ≠ 0
theorem noLead_trim {l : List Nat} {m : Nat} (h : Trimmed l l.length m) : NoLead (l.take m) := by
  obtain ⟨h1, h2 | ⟨d, h3, h4⟩, _⟩ := h
  · left; rw [h2]; rfl
  · by_cases hm : m = 0
    · left; rw [hm]; rfl
    · right
      refine ⟨d, ?_, h4⟩
      rw [List.length_take, Nat.min_eq_left h1, List.getElem?_take, if_pos (by omega)]
      exact h3
theorem dv_pos {l : List Nat} (h : NoLead l) (h0 : l ≠ []) : 0 < dv l := by
  rcases h with h | ⟨d, h1, h2⟩
  · exact absurd h h0
  · have hl : 0 < l.length := List.length_pos_iff.2 h0
    have e : l = l.take (l.length - 1) ++ l.drop (l.length - 1) := (List.take_append_drop _ l).symm
    have e2 := dv_append (l.take (l.length - 1)) (l.drop (l.length - 1))
    rw [← e, dv_drop h1] at e2
    have := Nat.mul_pos (Nat.pow_pos (n := (l.take (l.length - 1)).length) (show 0 < 10 by omega)) (show 0 < d + 10 * dv (l.drop (l.length - 1 + 1)) by omega)
    omega
end Go.Proofs.YtjapgpmoojfhnaaGreatDoor

namespace Go.Proofs.YtjapgpmoojfhnaaGreatDoor
open Go.RowKit Go.Lib

/-- Bytes, least significant first. -/
def Fl.byteL (u : Nat) : List Nat := if h : u = 0 then [] else (u % 256) :: Fl.byteL (u / 256)
termination_by u
decreasing_by omega
/-- What Magnitude holds from round to round. -/
structure MagHeld (w : World) (Y N L : Nat) (g : Bool) (f : Nat) (A Ao : Option Addr) (m c no : Nat) (wx : World) (V : Nat) (l o : List Nat) : Prop where
  blk : wx.heap[Y]? = some (.cells #[.bool g, .slice A m c] 163 (0, 0))
  rd : Reads wx wx.heap.size A m (u8s l)
  ne : ∀ b off, A = some ⟨b, off, none⟩ → b ≠ Y
  ro : Reads wx wx.heap.size Ao no (u8s o)
  neo : ∀ b off, Ao = some ⟨b, off, none⟩ → b ≠ Y
  mL : m ≤ L
  val : dv l = V
  nine : ∀ x ∈ l, x ≤ 9
  lead : NoLead l
  sum : o.reverse ++ Fl.byteL V = Fl.byteL N
  few : no + f = 200
  small : V < 256 ^ f
  base : w.heap.size ≤ Y
  hi : Y < wx.heap.size
  bel : Below w.heap.size w wx
end Go.Proofs.YtjapgpmoojfhnaaGreatDoor

namespace Go.Proofs.YtjapgpmoojfhnaaGreatDoor
open Go.RowKit Go.Lib

/-- What the loop of binary.Of holds behind k bytes. -/
structure Gath (N k z m : Nat) : Prop where
  zk : z ≤ k
  k8 : k - z ≤ 8
  lt : m < 256 ^ (k - z)
  sum : m * 256 ^ z + N / 256 ^ k * 256 ^ k = N
  zero : m = 0 → k = z
  low : m ≠ 0 → m % 256 ≠ 0
theorem div_next (N k : Nat) : N / 256 ^ (k + 1) = N / 256 ^ k / 256 := by rw [Nat.pow_succ, Nat.div_div_eq_div_mul]
theorem Gath.skip {N k z m : Nat} (h : Gath N k z m) (h0 : m = 0) (hd : N / 256 ^ k % 256 = 0) : Gath N (k + 1) (z + 1) m := by
  obtain ⟨h1, h2, h3, h4, h5, h6⟩ := h
  have hk := h5 h0
  subst hk
  refine ⟨by omega, by omega, by rw [h0]; exact Nat.pow_pos (by omega), ?_, fun _ => rfl, h6⟩
  subst h0
  rw [Nat.zero_mul, Nat.zero_add] at h4 ⊢
  rw [div_next, Nat.pow_succ, Nat.mul_comm (256 ^ k) 256, ← Nat.mul_assoc]
  rw [show N / 256 ^ k / 256 * 256 = N / 256 ^ k by omega]
  exact h4
theorem Gath.take {N k z m : Nat} (h : Gath N k z m) (hk8 : k - z < 8) (hd : m = 0 → N / 256 ^ k % 256 ≠ 0) : Gath N (k + 1) z (m + N / 256 ^ k % 256 * 256 ^ (k - z)) := by
  obtain ⟨h1, h2, h3, h4, h5, h6⟩ := h
  obtain ⟨j, rfl⟩ : ∃ j, k = z + j := ⟨k - z, by omega⟩
  rw [show z + j - z = j by omega] at h2 h3 hk8 ⊢
  obtain ⟨D, hD⟩ : ∃ D, N / 256 ^ (z + j) = D := ⟨_, rfl⟩
  rw [hD] at h4 hd ⊢
  have e1 : z + j + 1 - z = j + 1 := by omega
  have hpos : 0 < 256 ^ j := Nat.pow_pos (by omega)
  have hdm : D % 256 < 256 := Nat.mod_lt _ (by omega)
  refine ⟨by omega, by omega, ?_, ?_, ?_, ?_⟩
  · rw [e1, Nat.pow_succ]
    have : D % 256 * 256 ^ j ≤ 255 * 256 ^ j := Nat.mul_le_mul_right _ (by omega)
    omega
  · rw [div_next, hD, Nat.add_mul, Nat.mul_assoc, ← Nat.pow_add, Nat.add_comm j z, Nat.pow_succ, Nat.mul_comm (256 ^ (z + j)) 256, ← Nat.mul_assoc (D / 256) 256, Nat.add_assoc, ← Nat.add_mul]
    rw [show D % 256 + D / 256 * 256 = D by omega]
    exact h4
  · intro h0
    exfalso
    have hm : m = 0 := by omega
    have h7 := hd hm
    have : 0 < D % 256 * 256 ^ j := Nat.mul_pos (by omega) hpos
    omega
  · intro _
    by_cases hm : m = 0
    · have h7 := hd hm
      have hj : j = 0 := by have := h5 hm; omega
      subst hj
      rw [hm, Nat.pow_zero, Nat.mul_one]
      omega
    · have h7 := h6 hm
      have hj : j ≠ 0 := fun h => by rw [h] at h3; simp at h3; exact hm h3
      obtain ⟨i, rfl⟩ : ∃ i, j = i + 1 := ⟨j - 1, by omega⟩
      rw [Nat.pow_succ, ← Nat.mul_assoc]
      omega
end Go.Proofs.YtjapgpmoojfhnaaGreatDoor

namespace Go.Proofs.YtjapgpmoojfhnaaGreatDoor
open Go.RowKit Go.Lib

end Go.Proofs.YtjapgpmoojfhnaaGreatDoor

namespace Go.Proofs.YtjapgpmoojfhnaaGreatDoor
open Go.RowKit Go.Lib

end Go.Proofs.YtjapgpmoojfhnaaGreatDoor

namespace Go.Proofs.YtjapgpmoojfhnaaGreatDoor
open Go.RowKit Go.Lib

theorem ReadPre.size {s T : ByteArray} {g : Bool} (h : ReadPre s T g) : s.size = T.size + (if g = true then 1 else 0) := by
  cases g with
  | true =>
    have h1 := h.len rfl
    have h2 := h.cut rfl
    rw [← h2, ByteArray.size_extract]
    simp
    omega
  | false =>
    rw [h.whole rfl]
    rfl
theorem ReadPre.at_ {s T : ByteArray} {g : Bool} (h : ReadPre s T g) (j : Nat) (hj : j < T.size) : ∃ hi : s.size - 1 - j < s.size, (ldig T)[j]? = some ((s[s.size - 1 - j]'hi).toNat - 48) ∧ 48 ≤ (s[s.size - 1 - j]'hi).toNat ∧ (s[s.size - 1 - j]'hi).toNat ≤ 57 := by
  have hs := h.size
  have hi : s.size - 1 - j < s.size := by omega
  have ht : T.size - 1 - j < T.size := by omega
  have key : s[s.size - 1 - j]'hi = T[T.size - 1 - j]'ht := by
    have h1 := byte_at hi rfl
    have h2 := byte_at ht rfl
    cases g with
    | false =>
      obtain rfl := h.whole rfl
      rfl
    | true =>
      have h3 : T.data.toList = s.data.toList.drop 1 := by
        rw [← h.cut rfl]
        simp
        rw [List.take_of_length_le (by rw [List.length_tail, Array.length_toList]; exact Nat.le_refl _)]
      rw [h3, List.getElem?_drop, show 1 + (T.size - 1 - j) = s.size - 1 - j by rw [hs]; simp; omega] at h2
      exact Option.some.inj (h1.symm.trans h2)
  refine ⟨hi, ?_, ?_, ?_⟩
  · have hz : T.data.toList.length = T.size := (ba_size T).symm
    rw [ldig, List.getElem?_reverse (by rw [List.length_map, hz]; exact hj), List.length_map, hz, List.getElem?_map, byte_at ht rfl, key]
    rfl
  · rw [key]; exact (h.digs _ ht).1
  · rw [key]; exact (h.digs _ ht).2
theorem ReadPre.minus {s T : ByteArray} (h : ReadPre s T true) (h0 : 0 < s.size) : (s[0]'h0).toNat = 45 := by
  have := h.head (h.len rfl)
  have := eq_of_beq this
  omega
set_option maxHeartbeats 1000000 in
set_option maxRecDepth 100000 in
theorem trim85_any (A : Option Addr) (n c : Nat) (l : List Nat) (w : World) (hr : Reads w w.heap.size A n (u8s l)) (hc : n ≤ c) (hn : n ≤ 1073741824) : Calls Tryz.prog 85 #[.slice A n c] w fun x w' => (∃ m, Trimmed l n m ∧ x = .returned (.slice A m c)) ∧ w' = w := by
  go_enter Tryz.func85, Tryz.ntmps85
  go_wp2_with fail
  go_loopg [3] n (fun f i wx => ∃ m : Nat, i = .int .i64 (m : Int) ∧ m ≤ n ∧ m ≤ f ∧ wx = w ∧ ∀ j, m ≤ j → j < n → l[j]? = some 0)
  case atStart => exact ⟨n, rfl, by omega, by omega, rfl, fun j h1 h2 => by omega⟩
  case round =>
    obtain ⟨m, rfl, hm, hf, hww, hz⟩ := hrel
    subst hww
    have hmc : m ≤ c := by omega
    have hmci : (m : Int) ≤ (c : Int) := by omega
    by_cases h0 : m = 0
    · subst h0
      have HZ := Lib.hid hz
      clear hz
      cases A with
      | none =>
        go_wp2_with fail
        go_ret
        exact ⟨⟨0, ⟨by omega, .inl rfl, HZ.out⟩, rfl⟩, rfl⟩
      | some a =>
        go_wp2_with fail
        go_ret
        exact ⟨⟨0, ⟨by omega, .inl rfl, HZ.out⟩, rfl⟩, rfl⟩
    · obtain ⟨q, rfl⟩ : ∃ q, m = q + 1 := ⟨m - 1, by omega⟩
      obtain ⟨b, off, u, rfl, hbB, hu, hcell⟩ := hr.at_ (k := q) (by omega)
      obtain ⟨x, hx, rfl⟩ := u8_at hu
      have hin : (0 : Int) < ((q + 1 : Nat) : Int) := by omega
      have h2 : IntKind.i64.wrap (((q + 1 : Nat) : Int) - 1) = (q : Int) := by have := IntWalk.i64_in (((q + 1 : Nat) : Int) - 1) (by omega); rw [this]; omega
      have h4 : (0 : Int) ≤ (q : Int) := by omega
      have h5 : (q : Int) < (n : Int) := by omega
      by_cases hx0 : x = 0
      · have hx0f : ((x : Int) == 0) = true := by subst hx0; rfl
        obtain ⟨f, rfl⟩ : ∃ f, gk = f + 1 := ⟨gk - 1, by omega⟩
        have HX := Lib.hid (show ∀ j, q ≤ j → j < n → l[j]? = some 0 from fun j h1 h2 => by
          by_cases hj : j = q
          · rw [hj, hx, hx0]
          · exact hz j (by omega) h2)
        clear hx hu hz hx0
        go_wp2_with fail
        go_roundg f
        case measure => omega
        case rel => exact ⟨q, by go_num, by omega, by omega, rfl, HX.out⟩
      · have hx0f : ((x : Int) == 0) = false := by simp; omega
        have HX := Lib.hid (show Trimmed l n (q + 1) from ⟨hm, .inr ⟨x, hx, hx0⟩, hz⟩)
        clear hx0 hx hu hz
        go_wp2_with fail
        go_ret
        exact ⟨⟨q + 1, HX.out, rfl⟩, rfl⟩
set_option maxHeartbeats 4000000 in
set_option maxRecDepth 100000 in
theorem ref03of_any (s T : ByteArray) (g : Bool) (hp : ReadPre s T g) (w : World) : Calls Tryz.prog 40 #[.string s] w fun x w' => (∃ A m c, Trimmed (ldig T) T.size m ∧ m ≤ c ∧ Reads w' w'.heap.size A m (u8s ((ldig T).take m)) ∧ x = .returned (.agg #[.bool g, .slice A m c])) ∧ Below w.heap.size w w' := by
  obtain ⟨i0, hi, hz0, hz1, hz2⟩ := info_parts info5
  have HP := Lib.hid hp
  have hss := hp.size
  have hTl := hp.le
  have hTp := hp.pos
  obtain ⟨X, hX⟩ : ∃ X, w.heap.size = X := ⟨_, rfl⟩
  obtain ⟨w1, hw1⟩ : ∃ w1 : World, (w.alloc (.cells #[.bool false, .slice none 0 0] 33)).alloc (.cells #[.bool false, .slice none 0 0] 33) = w1 := ⟨_, rfl⟩
  have hb1 : Below X w w1 := by rw [← hw1, ← hX]; exact ((Below.refl _ _).alloc (Nat.le_refl _) _).alloc (by simp) _
  have hX1 : w1.heap[X]? = some (.cells #[.bool false, .slice none 0 0] 33 (0, 0)) := by
    rw [← hw1, ← hX]; exact (Below.heap_alloc _ _ _ (by simp)).trans (heap_alloc_new w _)
  have hY1 : w1.heap[X + 1]? = some (.cells #[.bool false, .slice none 0 0] 33 (0, 0)) := by
    rw [← hw1, ← hX]
    have := heap_alloc_new (w.alloc (.cells #[.bool false, .slice none 0 0] 33)) (.cells #[.bool false, .slice none 0 0] 33)
    simpa using this
  have hsz1 : w1.heap.size = X + 2 := by rw [← hw1, ← hX]; simp
  have HX := Lib.hid hX
  have HW1 := Lib.hid hw1
  have w0 : IntKind.i64.wrap ((s.size : Int) - 1) = (s.size : Int) - 1 := IntWalk.i64_in _ (by split at hss <;> omega)
  have hs1 : 1 ≤ s.size := by split at hss <;> omega
  have hs2 : s.size ≤ 401 := by split at hss <;> omega
  have HSS := Lib.hid hss
  clear hw1 hp hss
  go_enter Tryz.func40, Tryz.ntmps40
  go_upto_block 0 with fail
  rw [HW1.out]
  go_wp2_with fail
  go_loopg [4] s.size (fun f t4 wx => ∃ (j : Nat) (v : Value) (ng : Bool), t4 = .int .i64 ((f : Int) - 1) ∧ f ≤ s.size ∧ ((ng = false ∧ j + f = s.size ∧ j ≤ T.size) ∨ (ng = true ∧ g = true ∧ j = T.size ∧ f = 0)) ∧ wx.heap[X]? = some (.cells #[.bool false, .slice none 0 0] 33 (0, 0)) ∧ wx.heap[X + 1]? = some (.cells #[.bool ng, v] 33 (0, 0)) ∧ wx.ownsRow (X + 2) 5 1 v j (u8s ((ldig T).take j)) ∧ X + 2 ≤ wx.heap.size ∧ Below X w wx)
  case atStart => exact ⟨0, .slice none 0 0, false, rfl, Nat.le_refl _, .inl ⟨rfl, by omega, by omega⟩, hX1, hY1, World.ownsRow_nil _ _ _ _, by omega, hb1⟩
  case round =>
    obtain ⟨j, v, ng, rfl, hfs, hcase, hXx, hYx, hown, hsx, hbx⟩ := hrel
    have HXx := Lib.hid hXx
    have HYx := Lib.hid hYx
    have y0 := at_block hYx 0 _ rfl
    have y1 := at_block hYx 1 _ rfl
    have fy0 := free_block hYx 0
    have fy1 := free_block hYx 1
    have HSZ := HSS.out
    cases gk with
    | zero =>
      have hfin : ng = g ∧ j = T.size := by
        rcases hcase with ⟨h1, h2, h3⟩ | ⟨h1, h2, h3, _⟩
        · refine ⟨?_, ?_⟩
          · cases g with
            | false => exact h1
            | true => simp at HSZ; omega
          · split at HSZ <;> omega
        · exact ⟨by rw [h1, h2], h3⟩
      obtain ⟨rfl, rfl⟩ := hfin
      have c1 : decide ((0 : Int) ≤ ((0 : Nat) : Int) - 1) = false := by decide
      have c1b : decide ((0 : Int) ≤ -1) = false := by decide
      obtain ⟨A, cp, hv, hcp, hrd⟩ := own_slice hown
      have hld : (ldig T).length = T.size := by rw [ldig, List.length_reverse, List.length_map, ba_size]
      rw [List.take_of_length_le (Nat.le_of_eq hld)] at hrd hown
      subst hv
      have TR := Lib.hid (trim85_any A T.size cp (ldig T) wr hrd hcp (by omega))
      have HRD := Lib.hid (And.intro hrd hown)
      have x0 := at_block hXx 0 _ rfl
      have x1 := at_block hXx 1 _ rfl
      have fx0 := free_block hXx 0
      have fx1 := free_block hXx 1
      clear hXx hYx hrd hown hcase HSZ hld
      go_wp2_with fail
      refine (TR.out).mono ?_
      rintro x w7 ⟨⟨m, hm, rfl⟩, rfl⟩
      have HM := Lib.hid hm
      have hmle := hm.1
      clear hm
      go_wp2_with fail
      refine bodyPost_ret (v := .agg #[.bool ng, .slice A m cp]) (by simp [results, Tryz.results40, go_sem, x0, x1]) rfl ?_
      refine ⟨⟨A, m, cp, HM.out, by omega, ?_, rfl⟩, ?_⟩
      · have h1 := own_heap (w' := ((w7.setCell ⟨X + 1, 1, none⟩ (.slice A m cp)).setCell ⟨X, 0, none⟩ (.bool ng)).setCell ⟨X, 1, none⟩ (.slice A m cp)) HRD.out.2 (fun k hk1 _ => by
          rw [Below.heap_setCell _ _ _ _ (show k ≠ X by omega), Below.heap_setCell _ _ _ _ (show k ≠ X by omega), Below.heap_setCell _ _ _ _ (show k ≠ X + 1 by omega)])
        have h3 := (Reads.of_own h1).take m HM.out.1
        have e : (u8s (ldig T)).take m = u8s ((ldig T).take m) := by simp [u8s, List.map_take]
        rw [e] at h3
        exact h3
      · try rw [HX.out]
        exact ((hbx.setCell (p := ⟨X + 1, 1, none⟩) (by show X ≤ X + 1; omega) _).setCell (p := ⟨X, 0, none⟩) (Nat.le_refl _) _).setCell (p := ⟨X, 1, none⟩) (Nat.le_refl _) _
    | succ f =>
      have e8 : (((f + 1 : Nat) : Int) - 1) = (f : Int) := by omega
      rw [e8]
      rcases hcase with ⟨rfl, hjf, hjT⟩ | ⟨_, _, _, h0⟩
      · have c1 : decide ((0 : Int) ≤ (f : Int)) = true := decide_eq_true (by omega)
        have hf0 : (0 : Int) ≤ (f : Int) := by omega
        have hfi : (f : Int) < (s.size : Int) := by omega
        have hfn : f < s.size := by omega
        have g8 : IntKind.i64.wrap ((f : Int) - 1) = (f : Int) - 1 := IntWalk.i64_in _ (by omega)
        obtain ⟨d8, hd8⟩ : ∃ d : UInt8, s[f]'hfn = d := ⟨_, rfl⟩
        by_cases hjl : j < T.size
        · obtain ⟨hi2, a1, a2, a3⟩ := HP.out.at_ j hjl
          have hidx : s.size - 1 - j = f := by omega
          have hsf : s[s.size - 1 - j]'hi2 = d8 := by
            rw [← hd8]
            congr 1
          rw [hsf] at a1 a2 a3
          have d1 : ((d8.toNat : Int) == 45) = false := by rw [beq_eq_false_iff_ne]; omega
          have g6 : IntKind.u8.wrap ((d8.toNat : Int) - 48) = ((d8.toNat - 48 : Nat) : Int) := by rw [IntKind.wrap_u8]; omega
          obtain ⟨x, hx⟩ : ∃ x, d8.toNat - 48 = x := ⟨_, rfl⟩
          rw [hx] at a1 g6
          have HA1 := Lib.hid a1
          obtain ⟨V, hV⟩ : ∃ V, u8s ((ldig T).take j) = V := ⟨_, rfl⟩
          rw [hV] at hown
          have HV := Lib.hid hV
          have hsx2 := hsx
          clear hXx hYx HSZ a1 a2 a3 hx hV hsf hi2 hidx
          go_wp2_with fail
          have ya : ∀ o, (wr.alloc o).cell? ⟨X + 1, 1, none⟩ = some v := fun o => (World.cell?_alloc_lt wr o ⟨X + 1, 1, none⟩ (by show X + 1 < _; omega)).trans y1
          go_region_law
            ((refine step_append_any _ (by rfl) _ _ _ (by rfl) (X + 2) 5 i0 _ 1 Tryz.underlying31 hi hz0 hz1 hz2 rfl v j V (by rfl) ((hown.alloc _).drew)
                _ (some ⟨wr.heap.size, 0, none⟩) 1 1 [.int .u8 (x : Int)] (by rfl) (Reads.of_block (cs := [.int .u8 (x : Int)]) (t := 5) (fr := (0, 0)) (heap_alloc_new wr _)) (by simp [Value.oneCell'])
                (by unfold maxLen; omega) (by omega) (by simp; omega) ?_; intro v' w3 hown3 hgr3; obtain ⟨A', c', rfl⟩ := own_form hown3; have hb3' : Below (X + 2) wr w3 := (((Below.refl _ _).alloc hsx2 _).drew).grown hgr3 (by simp; omega) (fun k hk => (hown.lt k hk).1); have hY3 := (hb3'.block (X + 1) (by omega)).trans HYx.out; have z1 := at_block hY3 1 _ rfl; have g1 := free_block hY3 1; have HY3 := Lib.hid hY3; clear hY3))
          all_goals
            go_wp2_with fail
            go_roundg f
            case measure => omega
            case rel =>
              refine ⟨j + 1, .slice A' (j + 1) c', false, rfl, by omega, .inl ⟨rfl, by omega, by omega⟩, ?_, ?_, ?_, ?_, ?_⟩
              · rw [Below.heap_setCell _ _ _ _ (by show X ≠ X + 1; omega)]
                exact (hb3'.block X (by omega)).trans HXx.out
              · exact block_set HY3.out 1 _
              · have e : u8s ((ldig T).take (j + 1)) = V ++ [.int .u8 (x : Int)] := by
                  rw [List.take_add_one, HA1.out, ← HV.out]
                  simp [u8s]
                rw [e]
                exact own_heap hown3 (fun k hk1 _ => Below.heap_setCell _ _ _ _ (show k ≠ X + 1 by omega))
              · show _ ≤ (World.setCell _ _ _).heap.size
                simp [World.setCell]; exact Nat.le_trans hsx2 hb3'.size
              · exact (hbx.trans (hb3'.mono (by omega))).setCell (p := ⟨X + 1, 1, none⟩) (by show X ≤ X + 1; omega) _
        · have hg : g = true := by
            cases g with
            | true => rfl
            | false => simp at HSZ; omega
          subst hg
          simp at HSZ
          obtain rfl : f = 0 := by omega
          have h45 := HP.out.minus hfn
          rw [hd8] at h45
          have d1 : ((d8.toNat : Int) == 45) = true := by rw [h45]; rfl
          obtain rfl : j = T.size := by omega
          have HOW := Lib.hid hown
          obtain ⟨A, cp, rfl⟩ := own_form hown
          clear hXx hYx hown h45 HSZ hjf
          go_wp2_with fail
          go_roundg 0
          case measure => omega
          case rel =>
            refine ⟨T.size, .slice A T.size cp, true, rfl, by omega, .inr ⟨rfl, by simp, rfl, rfl⟩, ?_, ?_, ?_, ?_, ?_⟩
            · rw [Below.heap_setCell _ _ _ _ (show X ≠ X + 1 by omega)]; exact HXx.out
            · exact block_set HYx.out 0 _
            · exact own_heap HOW.out (fun k hk1 _ => by rw [Below.heap_setCell _ _ _ _ (show k ≠ X + 1 by omega)])
            · simp [World.setCell]; omega
            · exact hbx.setCell (p := ⟨X + 1, 0, none⟩) (by show X ≤ X + 1; omega) _
      · omega
end Go.Proofs.YtjapgpmoojfhnaaGreatDoor

namespace Go.Proofs.YtjapgpmoojfhnaaGreatDoor
open Go.RowKit Go.Lib

theorem dv_lt : ∀ {l : List Nat}, (∀ x ∈ l, x ≤ 9) → dv l < 10 ^ l.length
  | [], _ => by simp [dv]
  | d :: l, h => by
    have h1 := dv_lt (l := l) (fun x hx => h x (by simp [hx]))
    have h2 := h d (by simp)
    rw [dv, List.length_cons, Nat.pow_succ]
    omega
theorem dv_digL : ∀ u : Nat, dv (Fl.digL u) = u := by
  intro u
  induction u using Nat.strongRecOn with
  | ind u ih =>
    by_cases h : u = 0
    · rw [h, Fl.digL_zero]; rfl
    · rw [Fl.digL_pos h, dv, ih (u / 10) (by omega)]
      omega
theorem digL_le9 : ∀ (u : Nat), ∀ x ∈ Fl.digL u, x ≤ 9 := by
  intro u
  induction u using Nat.strongRecOn with
  | ind u ih =>
    intro x hx
    by_cases h : u = 0
    · rw [h, Fl.digL_zero] at hx; simp at hx
    · rw [Fl.digL_pos h] at hx
      rcases List.mem_cons.1 hx with h1 | h1
      · omega
      · exact ih (u / 10) (by omega) x h1
theorem digL_dv : ∀ {l : List Nat}, (∀ x ∈ l, x ≤ 9) → NoLead l → Fl.digL (dv l) = l
  | [], _, _ => by rw [dv, Fl.digL_zero]
  | d :: l, h, hn => by
    have h2 := h d (by simp)
    have h1 : ∀ x ∈ l, x ≤ 9 := fun x hx => h x (by simp [hx])
    have h4 := dv_pos hn (by simp)
    rw [Fl.digL_pos (by omega), dv, show (d + 10 * dv l) % 10 = d by omega, show (d + 10 * dv l) / 10 = dv l by omega]
    by_cases h0 : l = []
    · rw [h0, dv, Fl.digL_zero]
    · rw [digL_dv h1]
      right
      rcases hn with hn | ⟨e, h5, h6⟩
      · cases hn
      · refine ⟨e, ?_, h6⟩
        have hl : 0 < l.length := List.length_pos_iff.2 h0
        rw [List.length_cons, show l.length + 1 - 1 = (l.length - 1) + 1 by omega, List.getElem?_cons_succ] at h5
        exact h5
theorem digL_noLead (u : Nat) : NoLead (Fl.digL u) := by
  by_cases h : u = 0
  · left; rw [h, Fl.digL_zero]
  · right
    induction u using Nat.strongRecOn with
    | ind u ih =>
      rw [Fl.digL_pos h]
      by_cases h1 : u / 10 = 0
      · refine ⟨u, ?_, h⟩
        rw [h1, Fl.digL_zero, show u % 10 = u by omega]
        rfl
      · obtain ⟨d, h2, h3⟩ := ih (u / 10) (by omega) h1
        refine ⟨d, ?_, h3⟩
        have hl : 0 < (Fl.digL (u / 10)).length := by rw [Fl.digL_pos h1]; simp
        rw [List.length_cons, show (Fl.digL (u / 10)).length + 1 - 1 = ((Fl.digL (u / 10)).length - 1) + 1 by omega, List.getElem?_cons_succ]
        exact h2
theorem digL_trim {l : List Nat} {n m : Nat} (hn : l.length = n) (hd : ∀ x ∈ l, x ≤ 9) (h : Trimmed l n m) : l.take m = Fl.digL (dv l) := by
  subst hn
  rw [← dv_trim h]
  exact (digL_dv (fun x hx => hd x (List.mem_of_mem_take hx)) (noLead_trim h)).symm
theorem dv_ge {l : List Nat} (hn : NoLead l) (h0 : l ≠ []) : 10 ^ (l.length - 1) ≤ dv l := by
  rcases hn with h | ⟨d, h1, h2⟩
  · exact absurd h h0
  · have e : l = l.take (l.length - 1) ++ l.drop (l.length - 1) := (List.take_append_drop _ l).symm
    have e2 := dv_append (l.take (l.length - 1)) (l.drop (l.length - 1))
    rw [← e, dv_drop h1, List.length_take, Nat.min_eq_left (by omega)] at e2
    have := Nat.mul_le_mul_left (10 ^ (l.length - 1)) (show 1 ≤ d + 10 * dv (l.drop (l.length - 1 + 1)) by omega)
    omega
theorem dv_longer {a b : List Nat} (ha : ∀ x ∈ a, x ≤ 9) (hb : NoLead b) (h : a.length < b.length) : dv a < dv b := by
  have h1 := dv_lt ha
  have h2 := dv_ge hb (by intro h0; rw [h0] at h; simp at h)
  have h3 : 10 ^ a.length ≤ 10 ^ (b.length - 1) := Nat.pow_le_pow_right (by omega) (by omega)
  omega
theorem dv_split (l : List Nat) (k : Nat) (hk : k ≤ l.length) : dv l = dv (l.take k) + 10 ^ k * dv (l.drop k) := by
  have e2 := dv_append (l.take k) (l.drop k)
  rw [List.take_append_drop, List.length_take, Nat.min_eq_left hk] at e2
  exact e2
theorem dv_first {a b : List Nat} {k x y : Nat} (ha : ∀ x ∈ a, x ≤ 9) (hab : a.length = b.length) (hx : a[k]? = some x) (hy : b[k]? = some y) (he : a.drop (k + 1) = b.drop (k + 1)) (hxy : x < y) : dv a < dv b := by
  have hk : k < a.length := by
    rcases Nat.lt_or_ge k a.length with h1 | h1
    · exact h1
    · rw [List.getElem?_eq_none h1] at hx; cases hx
  have h1 := dv_split a k (by omega)
  have h2 := dv_split b k (by omega)
  rw [dv_drop hx] at h1
  rw [dv_drop hy, ← he] at h2
  have h3 := dv_lt (l := a.take k) (fun x hx => ha x (List.mem_of_mem_take hx))
  rw [List.length_take, Nat.min_eq_left (by omega)] at h3
  have h4 : 10 ^ k * (x + 10 * dv (a.drop (k + 1))) + 10 ^ k ≤ 10 ^ k * (y + 10 * dv (a.drop (k + 1))) := by
    rw [← Nat.mul_succ]
    exact Nat.mul_le_mul_left _ (by omega)
  omega
/-- The comparison of two numbers. -/
def cmpN (u v : Nat) : Int := if u < v then -1 else if u = v then 0 else 1
theorem cmpN_lt {u v : Nat} (h : u < v) : cmpN u v = -1 := if_pos h
theorem cmpN_eq (u : Nat) : cmpN u u = 0 := by unfold cmpN; rw [if_neg (by omega), if_pos rfl]
theorem cmpN_gt {u v : Nat} (h : v < u) : cmpN u v = 1 := by unfold cmpN; rw [if_neg (by omega), if_neg (by omega)]
theorem drop_eq {a b : List Nat} {k x : Nat} (hx : a[k]? = some x) (hy : b[k]? = some x) (he : a.drop (k + 1) = b.drop (k + 1)) : a.drop k = b.drop k := by
  have f : ∀ {l : List Nat}, l[k]? = some x → l.drop k = x :: l.drop (k + 1) := fun {l} h => by
    have hk : k < l.length := by
      rcases Nat.lt_or_ge k l.length with h1 | h1
      · exact h1
      · rw [List.getElem?_eq_none h1] at h; cases h
    rw [List.drop_eq_getElem_cons hk]
    rw [List.getElem?_eq_getElem hk] at h
    rw [Option.some.inj h]
  rw [f hx, f hy, he]
end Go.Proofs.YtjapgpmoojfhnaaGreatDoor

namespace Go.Proofs.YtjapgpmoojfhnaaGreatDoor
open Go.RowKit Go.Lib

set_option maxHeartbeats 1000000 in
set_option maxRecDepth 100000 in
theorem size_any (A B : Option Addr) (n n2 c c2 : Nat) (la lb : List Nat) (w : World) (hr : Reads w w.heap.size A n (u8s la)) (h2 : Reads w w.heap.size B n2 (u8s lb)) (hn : n ≤ 1000000) (hn2 : n2 ≤ 1000000) (ha : ∀ x ∈ la, x ≤ 9) (hb : ∀ x ∈ lb, x ≤ 9) (na : NoLead la) (nb : NoLead lb) :
    Calls Tryz.prog 128 #[.slice A n c, .slice B n2 c2] w fun x w' => x = .returned (.int .i64 (cmpN (dv la) (dv lb))) ∧ Below w.heap.size w w' := by
  have hla : la.length = n := by have := hr.1; rwa [u8s_len] at this
  have hlb : lb.length = n2 := by have := h2.1; rwa [u8s_len] at this
  by_cases hne : n = n2
  · subst hne
    have w0 : IntKind.i64.wrap ((n : Int) - 1) = (n : Int) - 1 := IntWalk.i64_in _ (by omega)
    have HA := Lib.hid (And.intro hla (And.intro hlb (And.intro ha hb)))
    clear hla hlb ha hb na nb
    go_enter Tryz.func128, Tryz.ntmps128
    go_wp2_with fail
    go_loopg [5] n (fun f t wx => t = .int .i64 ((f : Int) - 1) ∧ f ≤ n ∧ la.drop f = lb.drop f ∧ Below w.heap.size w wx)
    case atStart => exact ⟨rfl, Nat.le_refl _, by rw [List.drop_of_length_le (by have := HA.out.1; omega), List.drop_of_length_le (by have := HA.out.2.1; omega)], Below.refl _ _⟩
    case round =>
      obtain ⟨rfl, hf, hdr, hk⟩ := hrel
      cases gk with
      | zero =>
        have c1 : decide ((0 : Int) ≤ ((0 : Nat) : Int) - 1) = false := by decide
        have c1b : decide ((0 : Int) ≤ -1) = false := by decide
        have E := Lib.hid (show cmpN (dv la) (dv lb) = 0 by rw [List.drop_zero, List.drop_zero] at hdr; rw [hdr]; exact cmpN_eq _)
        clear hdr
        go_wp2_with fail
        go_ret
        exact ⟨by rw [E.out]; rfl, by repeat (first | exact Below.refl _ _ | exact hk | apply below_drewN)⟩
      | succ f =>
        obtain ⟨b, off, u, rfl, hbA, hu, hcell⟩ := hr.at_ (k := f) (by omega)
        obtain ⟨x, hx, rfl⟩ := u8_at hu
        obtain ⟨b2, off2, u2, rfl, hbB, hu2, hcell2⟩ := h2.at_ (k := f) (by omega)
        obtain ⟨y, hy, rfl⟩ := u8_at hu2
        have hcellk := (hk.cell (p := ⟨b, off + f, none⟩) hbA).trans hcell
        have hcellk2 := (hk.cell (p := ⟨b2, off2 + f, none⟩) hbB).trans hcell2
        have e8 : (((f + 1 : Nat) : Int) - 1) = (f : Int) := by omega
        rw [e8]
        have c1 : decide ((0 : Int) ≤ (f : Int)) = true := decide_eq_true (by omega)
        have hf0 : (0 : Int) ≤ (f : Int) := by omega
        have hfn : (f : Int) < (n : Int) := by omega
        have g8 : IntKind.i64.wrap ((f : Int) - 1) = (f : Int) - 1 := IntWalk.i64_in _ (by omega)
        rcases Nat.lt_trichotomy x y with h | h | h
        · have d1 : decide ((x : Int) < (y : Int)) = true := decide_eq_true (by omega)
          have d1b : decide (x < y) = true := decide_eq_true h
          have E := Lib.hid (show cmpN (dv la) (dv lb) = -1 from cmpN_lt (dv_first HA.out.2.2.1 (by rw [HA.out.1, HA.out.2.1]) hx hy hdr h))
          clear h hx hy hdr hu hu2 e8
          go_wp2_with (first | go_quiet (fail) | fail)
          go_ret
          exact ⟨by rw [E.out]; rfl, by repeat (first | exact Below.refl _ _ | exact hk | apply below_drewN)⟩
        · subst h
          have d1 : decide ((x : Int) < (x : Int)) = false := decide_eq_false (by omega)
          have d1b : decide (x < x) = false := decide_eq_false (by omega)
          have E := Lib.hid (drop_eq hx hy hdr)
          clear hx hy hdr hu hu2 e8
          go_wp2_with (first | go_quiet (fail) | fail)
          go_roundg f
          case measure => omega
          case rel => exact ⟨rfl, by omega, E.out, by repeat (first | exact Below.refl _ _ | exact hk | apply below_drewN)⟩
        · have d1 : decide ((x : Int) < (y : Int)) = false := decide_eq_false (by omega)
          have d1b : decide (x < y) = false := decide_eq_false (by omega)
          have d2 : decide ((y : Int) < (x : Int)) = true := decide_eq_true (by omega)
          have d2b : decide (y < x) = true := decide_eq_true h
          have E := Lib.hid (show cmpN (dv la) (dv lb) = 1 from cmpN_gt (dv_first HA.out.2.2.2 (by rw [HA.out.1, HA.out.2.1]) hy hx hdr.symm h))
          clear h hx hy hdr hu hu2 e8
          go_wp2_with (first | go_quiet (fail) | fail)
          go_ret
          exact ⟨by rw [E.out]; rfl, by repeat (first | exact Below.refl _ _ | exact hk | apply below_drewN)⟩
  · by_cases hlt : n < n2
    · have E := Lib.hid (show cmpN (dv la) (dv lb) = -1 from cmpN_lt (dv_longer ha nb (by omega)))
      have d0 : ((n : Int) != (n2 : Int)) = true := by rw [bne_iff_ne]; omega
      have d1 : decide (n < n2) = true := decide_eq_true hlt
      have d1b : decide ((n : Int) < (n2 : Int)) = true := decide_eq_true (by omega)
      clear hr h2 hla hlb ha hb na nb hne hlt
      go_enter Tryz.func128, Tryz.ntmps128
      go_wp2_with fail
      go_ret
      exact ⟨by rw [E.out]; rfl, Below.refl _ _⟩
    · have E := Lib.hid (show cmpN (dv la) (dv lb) = 1 from cmpN_gt (dv_longer hb na (by omega)))
      have d0 : ((n : Int) != (n2 : Int)) = true := by rw [bne_iff_ne]; omega
      have d1 : decide (n < n2) = false := decide_eq_false hlt
      have d1b : decide ((n : Int) < (n2 : Int)) = false := decide_eq_false (by omega)
      clear hr h2 hla hlb ha hb na nb hne hlt
      go_enter Tryz.func128, Tryz.ntmps128
      go_wp2_with fail
      go_ret
      exact ⟨by rw [E.out]; rfl, Below.refl _ _⟩
end Go.Proofs.YtjapgpmoojfhnaaGreatDoor

namespace Go.Proofs.YtjapgpmoojfhnaaGreatDoor
open Go.RowKit Go.Lib

theorem own_addr {w : World} {base : Nat} {e : TypeId} {A : Option Addr} {n c : Nat} {xs : List Value} (h : w.ownsRow base e 1 (.slice A n c) n xs) : ∀ b off, A = some ⟨b, off, none⟩ → base ≤ b := fun b off he => by
  subst he
  rcases h.2 with ⟨hv, _⟩ | ⟨g', cap, cur, hv, hb, _⟩
  · cases hv
  · injection hv with hv1
    cases hv1
    exact hb
end Go.Proofs.YtjapgpmoojfhnaaGreatDoor

namespace Go.Proofs.YtjapgpmoojfhnaaGreatDoor
open Go.RowKit Go.Lib

set_option maxHeartbeats 1000000 in
set_option maxRecDepth 100000 in
theorem signed_pos (A : Option Addr) (n c : Nat) (l : List Nat) (w : World) (hr : Reads w w.heap.size A n (u8s l)) (hn : n ≤ c) (hc : n ≤ 1073741824) :
    Calls Tryz.prog 97 #[.slice A n c, .bool false] w fun x w' => (∃ m, Trimmed l n m ∧ x = .returned (.agg #[.bool false, .slice A m c])) ∧ Below w.heap.size w w' := by
  have TR := fun W hW => trim85_any A n c l W hW hn hc
  obtain ⟨w2, hw2⟩ : ∃ w2 : World, w.alloc (.cells #[.bool false, .slice none 0 0] 33) = w2 := ⟨_, rfl⟩
  obtain ⟨X, hX⟩ : ∃ X, w.heap.size = X := ⟨_, rfl⟩
  have hXc := heap_alloc_new w (.cells #[.bool false, .slice none 0 0] 33)
  have hb2 : Below w.heap.size w w2 := by rw [← hw2]; exact (Below.refl _ _).alloc (Nat.le_refl _) _
  rw [hw2, hX] at hXc
  have hr2 := hr.on hb2
  rw [hX] at hb2
  have HW2 := Lib.hid hw2
  have HX := Lib.hid hX
  have TR := Lib.hid (TR w2 hr2)
  have x0 := at_block hXc 0 _ rfl
  have x1 := at_block hXc 1 _ rfl
  have f0 := free_block hXc 0
  have f1 := free_block hXc 1
  clear hw2 hX hXc hr hr2
  go_enter Tryz.func97, Tryz.ntmps97
  go_upto_region 1 with fail
  rw [HW2.out, HX.out]
  go_wp2_with fail
  refine (TR.out).mono ?_
  rintro x w3 ⟨⟨m, hm, rfl⟩, rfl⟩
  have HM := Lib.hid hm
  clear hm
  go_wp2_with fail
  refine bodyPost_ret (v := .agg #[.bool false, .slice A m c]) (by simp [results, Tryz.results97, go_sem, x0, x1]) rfl ?_
  refine ⟨⟨m, HM.out, rfl⟩, ?_⟩
  rw [HX.out]
  exact (hb2.setCell (p := ⟨X, 0, none⟩) (Nat.le_refl _) _).setCell (p := ⟨X, 1, none⟩) (Nat.le_refl _) _
end Go.Proofs.YtjapgpmoojfhnaaGreatDoor
