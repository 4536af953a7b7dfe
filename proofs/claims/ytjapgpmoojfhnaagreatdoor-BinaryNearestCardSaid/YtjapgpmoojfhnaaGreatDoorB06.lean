/- The library's decimal under its shifts: its state in bytes, and what a shift to the left and one to the right make of it. The library's decimal: rows of digits compared as fractions; how many digits a shift to the left adds; the state behind a whole shift. The library's decimal: how many digits a shift to the left adds, by the table of the powers of five; the state behind a .. -/
import Derived.Test.YtjapgpmoojfhnaaGreatDoorB05
set_option maxHeartbeats 16000000
set_option maxRecDepth 100000
set_option linter.unusedSimpArgs false
set_option linter.unusedVariables false
namespace Go.Proofs.YtjapgpmoojfhnaaGreatDoor.Fl
theorem IsNum.trim {D : List Nat} {n N : Nat} (nd : Nat) : ∀ z : Nat, n = nd + z → IsNum D n N → (∀ i, nd ≤ i → i < n → D[i]? = some 48) → N = N / 10 ^ z * 10 ^ z ∧ IsNum D nd (N / 10 ^ z) := by
 intro z
 induction z generalizing n N with
 | zero =>
   intro hn h _
   rw [Nat.pow_zero, Nat.div_one, Nat.mul_one]
   exact ⟨rfl, (by rw [show nd = n by omega]; exact h)⟩
 | succ z ih =>
   intro hn h hz
   obtain ⟨n, rfl⟩ : ∃ n', n = n' + 1 := ⟨nd + z, by omega⟩
   have h0 := h.last
   rw [hz n (by omega) (by omega)] at h0
   have h9 : N % 10 = 0 := by simp only [Option.some.injEq] at h0; omega
   obtain ⟨h1, h2⟩ := ih (by omega) h.tail (fun i a b => hz i a (by omega))
   have e : N / 10 ^ (z + 1) = N / 10 / 10 ^ z := by rw [Nat.pow_succ, Nat.mul_comm, Nat.div_div_eq_div_mul]
   rw [e]
   refine ⟨?_, h2⟩
   rw [Nat.pow_succ, ← Nat.mul_assoc, ← h1]
   omega
theorem IsNum.zero {D : List Nat} {N : Nat} (h : IsNum D 0 N) : N = 0 := by have := h.1; rw [Nat.pow_zero] at this; omega
def Dya (M : Nat) (p : Int) (t : Bool) : Prop := ∀ (A : Nat) (h : Int), A ≤ 2 ^ 55 → -1076 ≤ h → h ≤ 1100 → M * sc p * tw 0 = A * sc 0 * tw h → t = false
def Rng (M : Nat) (p s : Int) : Prop := ∀ (A : Nat) (h : Int), A ≤ 2 ^ 55 → -1076 ≤ h → h ≤ 1100 → M * sc p * tw 0 = A * sc 0 * tw h → -1100 ≤ h + s ∧ h + s ≤ 2200
theorem rng_up {M : Nat} {p s : Int} (h : 0 ≤ s) (h' : s ≤ 1100) : Rng M p s := fun _ h _ _ _ _ => by omega
theorem tw_shift {a b c : Int} (h : a + b = c) (ha : -4000 ≤ a) (hc : -4000 ≤ c) (hb : -4000 ≤ b) : tw a * tw b = tw c * tw 0 := by
 unfold tw
 rw [← Nat.pow_add, ← Nat.pow_add]
 congr 1
 omega
theorem dya_at {M A : Nat} {p h s : Int} (e : M * sc p * tw 0 = A * sc 0 * tw h) (hh : -4000 ≤ h) (hs : -4000 ≤ s) (hhs : -4000 ≤ h + s) : M * sc p * tw s = A * sc 0 * tw (h + s) := by
 have e1 := tw_shift (a := h) (b := s) rfl hh hhs hs
 refine Nat.eq_of_mul_eq_mul_right (tw_pos 0) ?_
 calc M * sc p * tw s * tw 0 = M * sc p * tw 0 * tw s := Nat.mul_right_comm _ _ _
  _ = A * sc 0 * (tw h * tw s) := by rw [e, Nat.mul_assoc]
  _ = _ := by rw [e1, ← Nat.mul_assoc]
theorem rng_down {M : Nat} {p s : Int} (h : -1110 ≤ s) (h' : s ≤ 0) (hx : sc 0 * tw (-30) ≤ M * sc p * tw s) : Rng M p s := fun A k hA hk hk' e => by
 refine ⟨?_, by omega⟩
 have e1 := dya_at (s := s) e (by omega) (by omega) (by omega)
 rw [e1, Nat.mul_right_comm, Nat.mul_comm (A * tw (k + s))] at hx
 have h1 : tw (-30) ≤ A * tw (k + s) := Nat.le_of_mul_le_mul_left hx (sc_pos 0)
 have h2 : tw (-30) ≤ 2 ^ 55 * tw (k + s) := Nat.le_trans h1 (Nat.mul_le_mul_right _ hA)
 rw [← tw_add 55 (by omega)] at h2
 unfold tw at h2
 have h3 := (Nat.pow_le_pow_iff_right (by decide)).1 h2
 omega
structure DcS (M : Nat) (p s : Int) (j : Nat) (D : List Nat) (nd : Nat) (dp : Int) (t : Bool) (N : Nat) : Prop where
 num : IsNum D nd N
 n0 : N % 10 ≠ 0
 top : 10 ^ nd ≤ 10 * N
 le : nd ≤ 800
 st : Dst bigE M p s j N (dp - nd) t
 dya : Dya M p t
section
variable {M : Nat} {p s dp : Int} {j nd N : Nat} {D : List Nat} {t : Bool}
theorem DcS.nd_pos (h : DcS M p s j D nd dp t N) : 0 < nd := Nat.pos_of_ne_zero fun e => by
 have := h.num
 rw [e] at this
 have h1 := this.zero
 have h2 := h.n0
 omega
theorem DcS.lay {D1 : List Nat} {P m nd2 : Nat} {t1 : Bool} {e : Int} (hst : Dst bigE M p s j P e t) (hdya : Dya M p t) (hr : Rng M p s) (hlow : -1900 ≤ e ∧ -1100 ≤ s) (hm : 10 ^ m ≤ 10 * P)
 (hnum : IsNum D1 (min m 800) (P / 10 ^ (m - min m 800))) (ht : t1 = (t || P % 10 ^ (m - min m 800) != 0)) (hle : nd2 ≤ min m 800) (hz : ∀ i, nd2 ≤ i → i < min m 800 → D1[i]? = some 48) (hl : 0 < nd2 → D1[nd2 - 1]? ≠ some 48) (hdp : dp = e + m) :
 DcS M p s (j + 1) D1 nd2 dp t1 (P / 10 ^ (m - min m 800) / 10 ^ (min m 800 - nd2)) ∧ P / 10 ^ (m - min m 800) / 10 ^ (min m 800 - nd2) * sc (dp - nd2) ≤ P * sc e ∧ ∀ A, A * sc 0 ≤ P * sc e → dp ≤ 800 → A * sc 0 ≤ P / 10 ^ (m - min m 800) / 10 ^ (min m 800 - nd2) * sc (dp - nd2) := by
 have hpos := hst.pos
 have hc : m - min m 800 = 0 ∨ 10 ^ (m - min m 800) * bigE ≤ P := by
  rcases Nat.lt_or_ge 800 m with h8 | h8
  · right
    rw [bigE_pow, show m - min m 800 + pE = m - 1 by unfold pE; omega]
    have : 10 ^ m = 10 * 10 ^ (m - 1) := by
     conv => lhs; rw [show m = (m - 1) + 1 by omega, Nat.pow_succ, Nat.mul_comm]
    omega
  · left; omega
 have hq : 0 < P / 10 ^ (m - min m 800) := by
  refine Nat.div_pos ?_ (Nat.pow_pos (by decide))
  rcases hc with h | h
  · rw [h, Nat.pow_zero]; exact hpos
  · exact Nat.le_trans (Nat.le_mul_of_pos_right _ bigE_pos) h
 have hcut := hst.cut hc hq
 rw [← ht] at hcut
 obtain ⟨hN, hnum2⟩ := IsNum.trim nd2 (min m 800 - nd2) (by omega) hnum hz
 have htr := hcut.trim hN (by omega)
 have hd : e + (m - min m 800 : Nat) + (min m 800 - nd2 : Nat) = dp - nd2 := by omega
 rw [hd] at htr
 have hnd2 : 0 < nd2 := Nat.pos_of_ne_zero fun h0 => by
  rw [h0] at hnum2
  have := hnum2.zero
  have := htr.pos
  rw [h0] at this
  omega
 have hval : P / 10 ^ (m - min m 800) / 10 ^ (min m 800 - nd2) * sc (dp - nd2) = P / 10 ^ (m - min m 800) * sc (e + (m - min m 800 : Nat)) := by
  rw [← hd, sc_add _ (by omega), ← Nat.mul_assoc, ← hN]
 have hp10 : 0 < 10 ^ (m - min m 800) := Nat.pow_pos (by decide)
 refine ⟨?_, ?_, fun A hA hdp8 => ?_⟩
 rotate_left
 · rw [hval, sc_add _ (by omega), ← Nat.mul_assoc]
   exact Nat.mul_le_mul_right _ (Nat.div_mul_le_self _ _)
 · rw [hval]
   rcases Nat.eq_zero_or_pos (m - min m 800) with h0 | h0
   · rw [h0, Nat.pow_zero, Nat.div_one, show e + ((0 : Nat) : Int) = e by omega]
     exact hA
   · have e5 := sc_add (a := e + (m - min m 800 : Nat)) (-(e + (m - min m 800 : Nat))).toNat (by omega)
     rw [show e + ((m - min m 800 : Nat) : Int) + ((-(e + ((m - min m 800 : Nat) : Int))).toNat : Int) = 0 by omega] at e5
     rw [e5, ← Nat.mul_assoc]
     refine Nat.mul_le_mul_right _ ?_
     rw [Nat.le_div_iff_mul_le hp10]
     rw [e5, sc_add _ (by omega), ← Nat.mul_assoc, ← Nat.mul_assoc] at hA
     exact Nat.le_of_mul_le_mul_right hA (sc_pos e)
 refine ⟨hnum2, fun h0 => ?_, ?_, by omega, htr, fun A h hA h1 h2 he => ?_⟩
 · obtain ⟨n', hn'⟩ : ∃ n', nd2 = n' + 1 := ⟨nd2 - 1, by omega⟩
   have hlast := hl hnd2
   rw [hn'] at hnum2 hlast h0
   have := hnum2.last
   rw [h0] at this
   exact hlast this
 · -- the first digit
   have hdd : P / 10 ^ (m - min m 800) / 10 ^ (min m 800 - nd2) = P / 10 ^ (m - nd2) := by rw [Nat.div_div_eq_div_mul, ← Nat.pow_add]; congr 2; omega
   rw [hdd]
   rcases Nat.eq_zero_or_pos (m - nd2) with h0 | h0
   · rw [h0, Nat.pow_zero, Nat.div_one, show nd2 = m by omega]; exact hm
   · have h3 : 10 ^ m = 10 ^ nd2 * 10 ^ (m - nd2) := by rw [← Nat.pow_add]; congr 1; omega
     rw [h3] at hm
     have h4 : 10 ^ (nd2 - 1) ≤ P / 10 ^ (m - nd2) := by
      rw [Nat.le_div_iff_mul_le (Nat.pow_pos (by decide))]
      have h5 : 10 ^ nd2 = 10 * 10 ^ (nd2 - 1) := by
       conv => lhs; rw [show nd2 = (nd2 - 1) + 1 by omega, Nat.pow_succ, Nat.mul_comm]
      rw [h5, Nat.mul_assoc] at hm
      exact Nat.le_of_mul_le_mul_left hm (by decide)
     have h5 : 10 ^ nd2 = 10 * 10 ^ (nd2 - 1) := by
      conv => lhs; rw [show nd2 = (nd2 - 1) + 1 by omega, Nat.pow_succ, Nat.mul_comm]
     rw [h5]
     exact Nat.mul_le_mul_left _ h4
 · have ht0 := hdya A h hA h1 h2 he
   obtain ⟨r1, r2⟩ := hr A h hA h1 h2 he
   have e1 := dya_at (s := s) he (by omega) (by omega) (by omega)
   have e2 := hst.eq ht0
   rw [e1] at e2
   obtain ⟨Q, f, e3, hf, hQ⟩ := dya_digits e2 (by omega)
   have hQ' : Q < 10 * bigE := by
    rcases hQ with ⟨hg, rfl⟩ | ⟨hg, rfl⟩
    · exact dig_two hA (by unfold pD; omega)
    · exact dig_five hA (by unfold pD; omega)
   have hz0 := cut_zero e3 hQ' hc (by omega) hf
   rw [ht, ht0, hz0]
   rfl
end
end Go.Proofs.YtjapgpmoojfhnaaGreatDoor.Fl
namespace Go.Proofs.YtjapgpmoojfhnaaGreatDoor
def trimN (D : List Nat) : Nat → Nat
 | 0 => 0
 | n + 1 => if D[n]? = some 48 then trimN D n else n + 1
def dpT (n : Nat) (dp : Int) : Int := if n = 0 then 0 else dp
theorem trimN_le (D : List Nat) (n : Nat) : trimN D n ≤ n := by
 induction n with
 | zero => exact Nat.le_refl _
 | succ n ih =>
   unfold trimN
   split
   · omega
   · exact Nat.le_refl _
theorem trimN_spec (D : List Nat) (n : Nat) : (∀ i, trimN D n ≤ i → i < n → D[i]? = some 48) ∧ (0 < trimN D n → D[trimN D n - 1]? ≠ some 48) := by
 induction n with
 | zero => exact ⟨fun i _ h => by omega, fun h => absurd h (Nat.lt_irrefl 0)⟩
 | succ n ih =>
   unfold trimN
   split
   · rename_i h
     refine ⟨fun i hi hi' => ?_, ih.2⟩
     rcases Nat.lt_or_ge i n with hin | hin
     · exact ih.1 i hi hin
     · obtain rfl : i = n := by omega
       exact h
   · rename_i h
     exact ⟨fun i hi hi' => by omega, fun _ => by simpa using h⟩
def ltP : List Nat → List Nat → Bool
 | _, [] => false
 | [], _ :: _ => true
 | x :: xs, y :: ys => bif x == y then ltP xs ys else decide (x < y)
theorem ltP_nil (l : List Nat) : ltP l [] = false := by cases l <;> rfl
namespace Fl
def numL : List Nat → Nat
 | [] => 0
 | d :: l => (d - 48) * 10 ^ l.length + numL l
theorem numL_snoc (l : List Nat) (d : Nat) : numL (l ++ [d]) = 10 * numL l + (d - 48) := by
 induction l with
 | nil => simp [numL]
 | cons x l ih =>
   simp only [List.cons_append, numL, ih, List.length_append, List.length_cons, List.length_nil, Nat.pow_succ, Nat.zero_add]
   rw [Nat.mul_add, Nat.mul_left_comm 10, ← Nat.mul_assoc, Nat.mul_comm 10 (10 ^ l.length), Nat.mul_assoc]
   omega
theorem IsNum.numL {D : List Nat} : ∀ {n N : Nat}, IsNum D n N → numL (D.take n) = N
 | 0, N, h => by rw [h.zero]; rfl
 | n + 1, N, h => by
   have h1 := h.last
   have h2 := IsNum.numL h.tail
   rw [List.take_add_one, h1, Option.toList_some, numL_snoc, h2]
   omega
theorem numL_lt (l : List Nat) (h : ∀ d ∈ l, d < 58) : numL l < 10 ^ l.length := by
 induction l with
 | nil => exact Nat.one_pos
 | cons x l ih =>
   have h1 := ih fun d hd => h d (List.mem_cons_of_mem _ hd)
   have h2 := h x (List.mem_cons_self ..)
   have h3 : (x - 48) * 10 ^ l.length ≤ 9 * 10 ^ l.length := Nat.mul_le_mul_right _ (by omega)
   simp only [Fl.numL, List.length_cons, Nat.pow_succ]
   omega
theorem ltP_num : ∀ (l T : List Nat), (∀ d ∈ l, 48 ≤ d ∧ d < 58) → (∀ d ∈ T, 48 ≤ d ∧ d < 58) → (T ≠ [] → T.getLast? ≠ some 48) → ltP l T = decide (numL l * 10 ^ T.length < numL T * 10 ^ l.length)
 | l, [], _, _, _ => by rw [ltP_nil]; simp [numL]
 | [], y :: ys, _, hT, hl => by
   have hpos : ∀ T : List Nat, T ≠ [] → (∀ d ∈ T, 48 ≤ d ∧ d < 58) → T.getLast? ≠ some 48 → 0 < numL T := by
    intro T hne hT hl
    obtain ⟨T', d, rfl⟩ : ∃ T' d, T = T' ++ [d] := ⟨T.dropLast, T.getLast hne, (List.dropLast_concat_getLast hne).symm⟩
    rw [numL_snoc]
    have h1 := hT d (by simp)
    have h2 : d ≠ 48 := fun e => hl (by simp [e])
    omega
   have h1 := hpos (y :: ys) (by simp) hT (hl (by simp))
   show true = _
   rw [eq_comm, decide_eq_true_eq]
   simpa [numL] using h1
 | x :: xs, y :: ys, hx, hT, hl => by
   have x1 := hx x (List.mem_cons_self ..)
   have y1 := hT y (List.mem_cons_self ..)
   have hxs := numL_lt xs fun d hd => (hx d (List.mem_cons_of_mem _ hd)).2
   have hys := numL_lt ys fun d hd => (hT d (List.mem_cons_of_mem _ hd)).2
   have pX : 0 < 10 ^ xs.length := Nat.pow_pos (by decide)
   have pY : 0 < 10 ^ ys.length := Nat.pow_pos (by decide)
   simp only [ltP, numL, List.length_cons, Nat.pow_succ]
   by_cases hxy : x = y
   · subst hxy
     have ih := ltP_num xs ys (fun d hd => hx d (List.mem_cons_of_mem _ hd)) (fun d hd => hT d (List.mem_cons_of_mem _ hd)) fun hne => by
      have := hl (by simp)
      rwa [List.getLast?_cons_of_ne_nil hne] at this
     rw [BEq.rfl, cond_true, ih]
     refine decide_eq_decide.2 ?_
     generalize 10 ^ xs.length = X at *
     generalize 10 ^ ys.length = Y at *
     generalize numL xs = a at *
     generalize numL ys = b at *
     have e1 : ((x - 48) * X + a) * (Y * 10) = 10 * ((x - 48) * (X * Y)) + 10 * (a * Y) := by
      rw [Nat.add_mul]; congr 1 <;> simp only [Nat.mul_assoc, Nat.mul_comm, Nat.mul_left_comm]
     have e2 : ((x - 48) * Y + b) * (X * 10) = 10 * ((x - 48) * (X * Y)) + 10 * (b * X) := by
      rw [Nat.add_mul]; congr 1 <;> simp only [Nat.mul_assoc, Nat.mul_comm, Nat.mul_left_comm]
     rw [e1, e2]
     omega
   · rw [show (x == y) = false by simpa using hxy, cond_false]
     refine decide_eq_decide.2 ?_
     generalize 10 ^ xs.length = X at *
     generalize 10 ^ ys.length = Y at *
     generalize numL xs = a at *
     generalize numL ys = b at *
     rcases Nat.lt_or_ge x y with hlt | hge
     · refine ⟨fun _ => ?_, fun _ => hlt⟩
       have h1 : (x - 48) * X + a < (y - 48) * X := by
        have : (x - 48 + 1) * X ≤ (y - 48) * X := Nat.mul_le_mul_right _ (by omega)
        rw [Nat.add_mul, Nat.one_mul] at this
        omega
       calc ((x - 48) * X + a) * (Y * 10) < (y - 48) * X * (Y * 10) := Nat.mul_lt_mul_of_pos_right h1 (by omega)
        _ = (y - 48) * Y * (X * 10) := by simp only [Nat.mul_assoc, Nat.mul_left_comm]
        _ ≤ _ := Nat.mul_le_mul_right _ (Nat.le_add_right _ _)
     · refine ⟨fun h => by omega, fun h => ?_⟩
       exfalso
       have h1 : (y - 48) * Y + b < (x - 48) * Y := by
        have : (y - 48 + 1) * Y ≤ (x - 48) * Y := Nat.mul_le_mul_right _ (by omega)
        rw [Nat.add_mul, Nat.one_mul] at this
        omega
       have h2 : ((y - 48) * Y + b) * (X * 10) < ((x - 48) * X + a) * (Y * 10) := by
        calc ((y - 48) * Y + b) * (X * 10) < (x - 48) * Y * (X * 10) := Nat.mul_lt_mul_of_pos_right h1 (by omega)
         _ = (x - 48) * X * (Y * 10) := by simp only [Nat.mul_assoc, Nat.mul_left_comm]
         _ ≤ _ := Nat.mul_le_mul_right _ (Nat.le_add_right _ _)
       omega
end Fl
end Go.Proofs.YtjapgpmoojfhnaaGreatDoor
namespace Go.Proofs.YtjapgpmoojfhnaaGreatDoor.Fl
def digB : Nat → Nat → List Nat
 | 0, _ => []
 | L + 1, n => digB L (n / 10) ++ [48 + n % 10]
theorem digB_len (L n : Nat) : (digB L n).length = L := by
 induction L generalizing n with
 | zero => rfl
 | succ L ih => simp [digB, ih]
theorem digB_mem (L n : Nat) : ∀ d ∈ digB L n, 48 ≤ d ∧ d < 58 := by
 induction L generalizing n with
 | zero => intro d hd; cases hd
 | succ L ih =>
   intro d hd
   simp only [digB, List.mem_append, List.mem_singleton] at hd
   rcases hd with hd | rfl
   · exact ih _ d hd
   · omega
theorem digB_num {L n : Nat} (h : n < 10 ^ L) : numL (digB L n) = n := by
 induction L generalizing n with
 | zero =>
   rw [Nat.pow_zero] at h
   obtain rfl : n = 0 := by omega
   rfl
 | succ L ih =>
   rw [Nat.pow_succ] at h
   rw [digB, numL_snoc, ih (by omega)]
   omega
theorem digB_last {L n : Nat} (h : n % 10 ≠ 0) (hL : 0 < L) : (digB L n).getLast? ≠ some 48 := by
 obtain ⟨L, rfl⟩ : ∃ L', L = L' + 1 := ⟨L - 1, by omega⟩
 rw [digB, List.getLast?_concat]
 intro e
 simp only [Option.some.injEq] at e
 omega
def chD (k : Nat) : Nat := ([0, 1, 1, 1, 2, 2, 2, 3, 3, 3, 4, 4, 4, 4, 5, 5, 5, 6, 6, 6, 7, 7, 7, 7, 8, 8, 8, 9, 9, 9, 10, 10, 10, 10, 11, 11, 11, 12, 12, 12, 13, 13, 13, 13, 14, 14, 14, 15, 15, 15, 16, 16, 16, 16, 17, 17, 17, 18, 18, 18, 19] : List Nat).getD k 0
def chS (k : Nat) : List Nat := digB (k + 1 - chD k) (5 ^ k)
theorem ch_ok : ∀ k, 1 ≤ k → k ≤ 60 → 1 ≤ chD k ∧ chD k ≤ k ∧ 10 ^ chD k ≤ 10 * 2 ^ k ∧ 2 ^ k < 10 ^ chD k ∧ 5 ^ k < 10 ^ (k + 1 - chD k) ∧ 5 ^ k % 10 ≠ 0 := by
 have h : ((List.range 61).all fun k => decide (k = 0) || (decide (1 ≤ chD k) && decide (chD k ≤ k) && decide (10 ^ chD k ≤ 10 * 2 ^ k) && decide (2 ^ k < 10 ^ chD k) && decide (5 ^ k < 10 ^ (k + 1 - chD k)) && decide (5 ^ k % 10 ≠ 0))) = true := by kernel_rfl
 intro k h1 h2
 have := List.all_eq_true.1 h k (List.mem_range.2 (by omega))
 simp only [Bool.or_eq_true, Bool.and_eq_true, decide_eq_true_eq] at this
 rcases this with h0 | h0
 · omega
 · exact ⟨h0.1.1.1.1.1, h0.1.1.1.1.2, h0.1.1.1.2, h0.1.1.2, h0.1.2, h0.2⟩
section
variable {M : Nat} {p s dp : Int} {j nd N : Nat} {D D1 : List Nat} {t t1 : Bool}
theorem IsNum.mem {n : Nat} (h : IsNum D n N) : ∀ d ∈ D.take n, 48 ≤ d ∧ d < 58 := by
 intro d hd
 obtain ⟨i, hi, e⟩ := List.mem_take_iff_getElem.1 hd
 have h1 := h.2 i (by omega)
 rw [List.getElem?_eq_getElem (by omega)] at h1
 simp only [Option.some.injEq] at h1
 omega
theorem IsNum.len {n : Nat} (h : IsNum D n N) : (D.take n).length = n := by
 cases n with
 | zero => rfl
 | succ n =>
   have h1 := (List.getElem?_eq_some_iff.1 h.last).1
   rw [List.length_take]
   omega
def lenL (D : List Nat) (nd k : Nat) : Nat := nd + chD k - (if ltP (D.take nd) (chS k) then 1 else 0)
theorem left_len {k : Nat} (h : IsNum D nd N) (h0 : 10 ^ nd ≤ 10 * N) (h1 : 1 ≤ k) (h2 : k ≤ 60) : N * 2 ^ k < 10 ^ lenL D nd k ∧ 10 ^ lenL D nd k ≤ 10 * (N * 2 ^ k) := by
 obtain ⟨c1, c2, c3, c4, c5, c6⟩ := ch_ok k h1 h2
 have hlt := ltP_num (D.take nd) (chS k) h.mem (digB_mem _ _) (fun _ => digB_last c6 (by omega))
 rw [h.numL, h.len, show numL (chS k) = 5 ^ k from digB_num c5, show (chS k).length = k + 1 - chD k from digB_len _ _] at hlt
 have hN := h.1
 have hp2 : 0 < 2 ^ k := Nat.pow_pos (by decide)
 obtain ⟨L, hL⟩ : ∃ L, k + 1 - chD k = L := ⟨_, rfl⟩
 obtain ⟨δ, hδ⟩ : ∃ δ, chD k = δ + 1 := ⟨chD k - 1, by omega⟩
 have e10 : 10 ^ k = 5 ^ k * 2 ^ k := by rw [← Nat.mul_pow]
 unfold lenL
 rw [hL] at hlt c5
 rw [hδ] at c3 c4 ⊢
 have ek : k = L + δ := by omega
 have e10' : 10 ^ L * 10 ^ δ = 5 ^ k * 2 ^ k := by rw [← Nat.pow_add, ← ek, e10]
 have hpL : 0 < 10 ^ L := Nat.pow_pos (by decide)
 rw [Nat.pow_succ] at c3 c4
 by_cases hb : ltP (D.take nd) (chS k) = true
 · rw [hb] at hlt
   have hlt' := of_decide_eq_true hlt.symm
   rw [hb, if_pos rfl, show nd + (δ + 1) - 1 = nd + δ by omega, Nat.pow_add]
   constructor
   · refine Nat.lt_of_mul_lt_mul_left (a := 10 ^ L) ?_
     calc 10 ^ L * (N * 2 ^ k) = N * 10 ^ L * 2 ^ k := by simp only [Nat.mul_assoc, Nat.mul_left_comm]
      _ < 5 ^ k * 10 ^ nd * 2 ^ k := Nat.mul_lt_mul_of_pos_right hlt' hp2
      _ = 5 ^ k * 2 ^ k * 10 ^ nd := Nat.mul_right_comm _ _ _
      _ = 10 ^ L * (10 ^ nd * 10 ^ δ) := by rw [← e10', Nat.mul_comm, Nat.mul_left_comm]
   · calc 10 ^ nd * 10 ^ δ ≤ 10 * N * 10 ^ δ := Nat.mul_le_mul_right _ h0
      _ = 10 * (N * 10 ^ δ) := Nat.mul_assoc _ _ _
      _ ≤ 10 * (N * 2 ^ k) := Nat.mul_le_mul_left _ (Nat.mul_le_mul_left _ (by omega))
 · have hb' : ltP (D.take nd) (chS k) = false := by simpa using hb
   rw [hb'] at hlt
   have hlt' := of_decide_eq_false hlt.symm
   rw [hb', if_neg (by decide), Nat.sub_zero, Nat.pow_add, Nat.pow_succ]
   constructor
   · exact Nat.mul_lt_mul'' hN c4
   · have h3 : 10 ^ nd * 10 ^ δ ≤ N * 2 ^ k := by
      refine Nat.le_of_mul_le_mul_left (c := 10 ^ L) ?_ hpL
      calc 10 ^ L * (10 ^ nd * 10 ^ δ) = 5 ^ k * 2 ^ k * 10 ^ nd := by rw [← e10', Nat.mul_comm (10 ^ L * 10 ^ δ), Nat.mul_left_comm]
       _ = 5 ^ k * 10 ^ nd * 2 ^ k := Nat.mul_right_comm _ _ _
       _ ≤ N * 10 ^ L * 2 ^ k := Nat.mul_le_mul_right _ (by omega)
       _ = _ := by simp only [Nat.mul_assoc, Nat.mul_left_comm]
     rw [← Nat.mul_assoc]
     omega
theorem DcS.left {k : Nat} (h : DcS M p s j D nd dp t N) (h1 : 1 ≤ k) (h2 : k ≤ 60) (hL : LSt D N k nd (lenL D nd k) t D1 (lenL D nd k) t1) (hr : Rng M p (s + k)) (hlow : -1900 ≤ dp - nd ∧ -1100 ≤ s) :
 ∃ N1, DcS M p (s + k) (j + 1) D1 (trimN D1 (min (lenL D nd k) 800)) (dp + (lenL D nd k - nd : Int)) t1 N1 ∧
   N1 * sc (dp + (lenL D nd k - nd : Int) - trimN D1 (min (lenL D nd k) 800)) ≤ 2 ^ k * (N * sc (dp - nd)) ∧ ∀ A, A * sc 0 ≤ 2 ^ k * (N * sc (dp - nd)) → dp + (lenL D nd k - nd : Int) ≤ 800 → A * sc 0 ≤ N1 * sc (dp + (lenL D nd k - nd : Int) - trimN D1 (min (lenL D nd k) 800)) := by
 obtain ⟨b1, b2⟩ := left_len h.num h.top h1 h2
 obtain ⟨e1, e2⟩ := hL.end_ b1
 obtain ⟨z1, z2⟩ := trimN_spec D1 (min (lenL D nd k) 800)
 have e3 : N * 2 ^ k * sc (dp - nd) = 2 ^ k * (N * sc (dp - nd)) := by rw [Nat.mul_comm N, Nat.mul_assoc]
 rw [← e3]
 exact ⟨_, DcS.lay (e := dp - nd) (h.st.left k) h.dya hr (by omega) b2 e1 e2 (trimN_le _ _) z1 z2 (by omega)⟩
theorem DcS.right {k r w : Nat} (h : DcS M p s j D nd dp t N) (hR : RSt D N k nd r t D1 w t1) (h0 : preN N nd r < 2 ^ k) (h1 : 2 ^ k ≤ preN N nd (r + 1)) (hz : preN N nd (r + w) % 2 ^ k = 0) (hge : nd ≤ r + w) (hw : 0 < w) (hr : Rng M p (s - k)) (hlow : -1900 ≤ dp - r - w ∧ -1100 ≤ s - k) :
 ∃ N1, DcS M p (s - k) (j + 1) D1 (trimN D1 (min w 800)) (dp - r) t1 N1 ∧ 2 ^ k * (N1 * sc (dp - r - trimN D1 (min w 800))) ≤ N * sc (dp - nd) := by
 have hp2 : 0 < 2 ^ k := Nat.pow_pos (by decide)
 obtain ⟨e1, e2⟩ := hR.end_ h0
 obtain ⟨z1, z2⟩ := trimN_spec D1 (min w 800)
 have hpre : preN N nd (r + w) = N * 10 ^ (r + w - nd) := by
  unfold preN
  split
  · rw [show nd - (r + w) = 0 by omega, show r + w - nd = 0 by omega, Nat.pow_zero, Nat.div_one, Nat.mul_one]
  · rfl
 have hP : outN N nd k r w * 2 ^ k = N * 10 ^ (r + w - nd) := by
  unfold outN
  rw [← hpre]
  exact Nat.div_mul_cancel (Nat.dvd_of_mod_eq_zero hz)
 have hst := h.st.right (z := r + w - nd) hP (by omega) (by omega)
 have hm : 10 ^ w ≤ 10 * outN N nd k r w := by
  have h3 := pre_shift N nd (r + 1) (w - 1)
  rw [show r + 1 + (w - 1) = r + w by omega] at h3
  have h4 : 10 ^ (w - 1) * 2 ^ k ≤ preN N nd (r + w) := by
   have := Nat.div_mul_le_self (preN N nd (r + w)) (10 ^ (w - 1))
   rw [h3] at this
   exact Nat.le_trans (by rw [Nat.mul_comm]; exact Nat.mul_le_mul_right _ h1) this
  have h5 : 10 ^ (w - 1) ≤ outN N nd k r w := (Nat.le_div_iff_mul_le hp2).2 h4
  have h6 : 10 ^ w = 10 * 10 ^ (w - 1) := by
   conv => lhs; rw [show w = (w - 1) + 1 by omega, Nat.pow_succ, Nat.mul_comm]
  omega
 obtain ⟨l1, l2, _⟩ := DcS.lay (e := dp - nd - (r + w - nd : Nat)) hst h.dya hr (by omega) hm e1 e2 (trimN_le _ _) z1 z2 (show dp - r = _ by omega)
 refine ⟨_, l1, Nat.le_trans (Nat.mul_le_mul_left _ l2) (Nat.le_of_eq ?_)⟩
 have e5 := sc_add (a := dp - nd - (r + w - nd : Nat)) (r + w - nd) (by omega)
 rw [Int.sub_add_cancel] at e5
 rw [e5, ← Nat.mul_assoc, ← Nat.mul_assoc, ← hP, Nat.mul_comm (2 ^ k)]
end
end Go.Proofs.YtjapgpmoojfhnaaGreatDoor.Fl
namespace Go.Proofs.YtjapgpmoojfhnaaGreatDoor
def rupN (D : List Nat) (nd : Nat) (tr : Bool) (k : Nat) : Bool :=
 decide (k < nd) && bif D.getD k 0 == 53 && k + 1 == nd then tr || (decide (0 < k) && (D.getD (k - 1) 0 - 48) % 2 != 0) else decide (53 ≤ D.getD k 0)
namespace Fl
def intQ (N nd : Nat) (dp : Int) : Nat := if dp < 0 then 0 else if dp.toNat < nd then N / 10 ^ (nd - dp.toNat) else N * 10 ^ (dp.toNat - nd)
def rndN (D : List Nat) (N nd : Nat) (dp : Int) (t : Bool) : Nat := intQ N nd dp + (if 0 ≤ dp ∧ rupN D nd t dp.toNat = true then 1 else 0)
section
variable {M : Nat} {p s dp : Int} {j nd N : Nat} {D : List Nat} {t : Bool} {e : Int}
theorem bigE_two {j : Nat} (hj : j ≤ 5000) : 2 * j < bigE := by
 have h := bigE_small hj
 have h1 : 1 ≤ 10 ^ pA * 2 ^ 0 := Nat.mul_pos (Nat.pow_pos (by decide)) (by decide)
 have h2 : 2 * j ≤ j * 2 ^ 55 * 1 := by omega
 exact Nat.lt_of_le_of_lt (Nat.le_trans h2 (Nat.mul_le_mul_left _ h1)) h
theorem Dst.twice (h : Dst bigE M p s j N e t) (hj : j ≤ 5000) : M * sc p * tw s ≤ 2 * (N * sc e * tw 0) := by
 have h1 := h.err
 have h2 := h.lo
 have h3 := bigE_two hj
 generalize M * sc p * tw s = Y at *
 generalize N * sc e * tw 0 = V at *
 rcases Nat.lt_or_ge (2 * V) Y with hx | hx
 · exfalso
   have h4 : Y < 2 * (Y - V) := by omega
   have h5 : 2 * j * Y ≤ bigE * Y := Nat.mul_le_mul_right _ (Nat.le_of_lt h3)
   have h6 : Y * bigE < 2 * (Y - V) * bigE := Nat.mul_lt_mul_of_pos_right h4 bigE_pos
   rw [Nat.mul_assoc] at h5 h6
   rw [Nat.mul_comm bigE] at h5
   omega
 · exact hx
theorem DcS.half {H : Nat} (h : DcS M p s j D nd dp t N) (h1 : -1099 ≤ s) (h2 : s ≤ 1075) (hH : H ≤ 2 ^ 55) (e : 2 * (M * sc p * tw s) = H * (sc 0 * tw 0)) : t = false := by
 refine h.dya H (-1 - s) hH (by omega) (by omega) ?_
 have e1 := tw_add (a := -1) 1 (by omega)
 rw [show (-1 : Int) + ((1 : Nat) : Int) = 0 by omega, Nat.pow_one] at e1
 have e2 : M * sc p * tw s = H * sc 0 * tw (-1) := by
  refine Nat.eq_of_mul_eq_mul_left (by decide : 0 < 2) ?_
  rw [e, e1]
  simp only [Nat.mul_assoc, Nat.mul_left_comm]
 have e3 := tw_shift (a := -1 - s) (b := s) (c := -1) (by omega) (by omega) (by omega) (by omega)
 refine Nat.eq_of_mul_eq_mul_right (tw_pos s) ?_
 calc M * sc p * tw 0 * tw s = M * sc p * tw s * tw 0 := Nat.mul_right_comm _ _ _
  _ = H * sc 0 * (tw (-1) * tw 0) := by rw [e2, Nat.mul_assoc]
  _ = _ := by rw [← e3, ← Nat.mul_assoc]
theorem half_cmp {d : Nat} (h : IsNum D nd N) (h0 : N % 10 ≠ 0) (hd : d < nd) :
 (rupN D nd t d = false → 2 * (N % 10 ^ (nd - d)) < 10 ^ (nd - d) ∨ (2 * (N % 10 ^ (nd - d)) = 10 ^ (nd - d) ∧ t = false ∧ N / 10 ^ (nd - d) % 2 = 0)) ∧
 (rupN D nd t d = true → 10 ^ (nd - d) < 2 * (N % 10 ^ (nd - d)) ∨ (2 * (N % 10 ^ (nd - d)) = 10 ^ (nd - d) ∧ (t = true ∨ N / 10 ^ (nd - d) % 2 = 1))) := by
 obtain ⟨z, hz⟩ : ∃ z, nd - d = z + 1 := ⟨nd - d - 1, by omega⟩
 have hdig := h.2 d hd
 rw [show nd - 1 - d = z by omega] at hdig
 have hg : D.getD d 0 = 48 + N / 10 ^ z % 10 := by rw [List.getD_eq_getElem?_getD, hdig]; rfl
 have hsp := mod_split N z
 have hp : 0 < 10 ^ z := Nat.pow_pos (by decide)
 have hlow : N % 10 ^ z < 10 ^ z := Nat.mod_lt _ hp
 have hc : N / 10 ^ z % 10 < 10 := Nat.mod_lt _ (by decide)
 have hodd : 0 < d → D.getD (d - 1) 0 = 48 + N / 10 ^ (z + 1) % 10 := fun hd0 => by
  have h1 := h.2 (d - 1) (by omega)
  rw [show nd - 1 - (d - 1) = z + 1 by omega] at h1
  rw [List.getD_eq_getElem?_getD, h1]; rfl
 have hq0 : d = 0 → N / 10 ^ (z + 1) = 0 := fun e => by
  rw [Nat.div_eq_of_lt]
  have := h.1
  rwa [show nd = z + 1 by omega] at this
 have hp10 : 10 ^ (z + 1) = 10 * 10 ^ z := by rw [Nat.pow_succ, Nat.mul_comm]
 have hnd : nd = d + z + 1 := by omega
 have n0 : N % 10 ≠ 0 := h0
 rw [hz, hsp, hp10]
 rw [hp10] at hodd hq0
 unfold rupN
 rw [decide_eq_true hd, Bool.true_and, hg]
 clear hdig hg hsp h0
 generalize hcc : N / 10 ^ z % 10 = c at *
 have hx : 10 ^ z * c = c * 10 ^ z := Nat.mul_comm _ _
 by_cases h5 : c = 5
 · subst h5
   rw [show (48 + 5 == 53) = true from rfl, Bool.true_and]
   by_cases hz0 : z = 0
   · subst hz0
     rw [show (d + 1 == nd) = true by rw [beq_iff_eq]; omega, cond_true]
     rw [Nat.pow_zero] at *
     rw [Nat.mod_one]
     have hm10 : N / (10 * 1) % 2 = 1 ↔ (0 < d ∧ (D.getD (d - 1) 0 - 48) % 2 ≠ 0) := by
      constructor
      · intro ho
        have hd0 : 0 < d := Nat.pos_of_ne_zero fun e => by rw [hq0 e] at ho; omega
        refine ⟨hd0, ?_⟩
        rw [hodd hd0]
        omega
      · rintro ⟨hd0, ho⟩
        rw [hodd hd0] at ho
        omega
     constructor
     · intro hr
       simp only [Bool.or_eq_false_iff, Bool.and_eq_false_iff, decide_eq_false_iff_not, bne_eq_false_iff_eq] at hr
       refine .inr ⟨by omega, hr.1, ?_⟩
       have : ¬ N / (10 * 1) % 2 = 1 := fun ho => by
        obtain ⟨a1, a2⟩ := hm10.1 ho
        rcases hr.2 with b | b
        · exact b a1
        · exact a2 b
       omega
     · intro hr
       simp only [Bool.or_eq_true, Bool.and_eq_true, decide_eq_true_eq, bne_iff_ne, ne_eq] at hr
       refine .inr ⟨by omega, hr.imp id fun b => hm10.2 b⟩
   · rw [show (d + 1 == nd) = false by rw [beq_eq_false_iff_ne]; omega, cond_false]
     have hl0 : 0 < N % 10 ^ z := Nat.pos_of_ne_zero fun e => by
      obtain ⟨y, rfl⟩ : ∃ y, z = y + 1 := ⟨z - 1, by omega⟩
      have := Nat.mod_mod_of_dvd N (Nat.dvd_mul_left 10 (10 ^ y))
      rw [← Nat.pow_succ, e] at this
      exact n0 this.symm
     exact ⟨fun hr => by simp at hr, fun _ => .inl (by omega)⟩
 · rw [show (48 + c == 53) = false by rw [beq_eq_false_iff_ne]; omega, Bool.false_and, cond_false]
   constructor
   · intro hr
     have := of_decide_eq_false hr
     have h4 : c * 10 ^ z ≤ 4 * 10 ^ z := Nat.mul_le_mul_right _ (by omega)
     left; omega
   · intro hr
     have := of_decide_eq_true hr
     have h6 : 6 * 10 ^ z ≤ c * 10 ^ z := Nat.mul_le_mul_right _ (by omega)
     left; omega
end
end Fl
end Go.Proofs.YtjapgpmoojfhnaaGreatDoor
namespace Go.Proofs.YtjapgpmoojfhnaaGreatDoor.Fl
section
variable {M : Nat} {p s dp : Int} {j nd N : Nat} {D : List Nat} {t : Bool}
theorem int_cmp (hnum : IsNum D nd N) (h0 : N % 10 ≠ 0) (hlow : -3000 ≤ dp - nd) :
 intQ N nd dp * (sc 0 * tw 0) ≤ N * sc (dp - nd) * tw 0 ∧ N * sc (dp - nd) * tw 0 < (intQ N nd dp + 1) * (sc 0 * tw 0) ∧
 ((rndN D N nd dp t = intQ N nd dp ∧ (2 * (N * sc (dp - nd) * tw 0) < (2 * intQ N nd dp + 1) * (sc 0 * tw 0) ∨ (2 * (N * sc (dp - nd) * tw 0) = (2 * intQ N nd dp + 1) * (sc 0 * tw 0) ∧ t = false ∧ intQ N nd dp % 2 = 0))) ∨
  (rndN D N nd dp t = intQ N nd dp + 1 ∧ ((2 * intQ N nd dp + 1) * (sc 0 * tw 0) < 2 * (N * sc (dp - nd) * tw 0) ∨ (2 * (N * sc (dp - nd) * tw 0) = (2 * intQ N nd dp + 1) * (sc 0 * tw 0) ∧ (t = true ∨ intQ N nd dp % 2 = 1))))) := by
 unfold rndN intQ
 by_cases hneg : dp < 0
 · rw [if_pos hneg, if_neg (fun h => by omega)]
   have e1 := sc_add (a := dp - nd) nd hlow
   rw [Int.sub_add_cancel] at e1
   have e2 := sc_add (a := dp) (-dp).toNat (by omega)
   rw [show dp + ((-dp).toNat : Int) = 0 by omega] at e2
   have h10 : 10 * sc dp ≤ sc 0 := by
    rw [e2]
    refine Nat.mul_le_mul_right _ ?_
    obtain ⟨y, hy⟩ : ∃ y, (-dp).toNat = y + 1 := ⟨(-dp).toNat - 1, by omega⟩
    rw [hy, Nat.pow_succ]
    have := Nat.pow_pos (by decide : 0 < 10) (n := y)
    omega
   have hlt : N * sc (dp - nd) < sc dp := by
    rw [e1]
    exact Nat.mul_lt_mul_of_pos_right hnum.1 (sc_pos _)
   have hlt2 : 2 * (N * sc (dp - nd) * tw 0) < sc 0 * tw 0 := by
    rw [← Nat.mul_assoc]
    exact Nat.mul_lt_mul_of_pos_right (by omega) (tw_pos 0)
   generalize N * sc (dp - nd) * tw 0 = V at *
   generalize sc 0 * tw 0 = U at *
   refine ⟨by omega, by omega, .inl ⟨rfl, .inl (by omega)⟩⟩
 · obtain ⟨d, rfl⟩ : ∃ d : Nat, dp = (d : Int) := ⟨dp.toNat, by omega⟩
   rw [if_neg hneg, Int.toNat_natCast]
   by_cases hd : d < nd
   · rw [if_pos hd]
     have e1 := sc_add (a := (d : Int) - nd) (nd - d) hlow
     rw [show (d : Int) - nd + ((nd - d : Nat) : Int) = 0 by omega] at e1
     have eU : sc 0 * tw 0 = 10 ^ (nd - d) * (sc ((d : Int) - nd) * tw 0) := by rw [e1, Nat.mul_assoc]
     have eV : N * sc ((d : Int) - nd) * tw 0 = N * (sc ((d : Int) - nd) * tw 0) := Nat.mul_assoc _ _ _
     obtain ⟨f1, f2⟩ := half_cmp (t := t) hnum h0 hd
     have hdm := Nat.div_add_mod N (10 ^ (nd - d))
     have hml := Nat.mod_lt N (Nat.pow_pos (by decide : 0 < 10) (n := nd - d))
     rw [eU, eV]
     have hS : 0 < sc ((d : Int) - nd) * tw 0 := Nat.mul_pos (sc_pos _) (tw_pos _)
     generalize sc ((d : Int) - nd) * tw 0 = S at *
     generalize hZ : 10 ^ (nd - d) = Z at *
     generalize hq : N / Z = q at *
     generalize hR : N % Z = R at *
     have c1 : ∀ a : Nat, a * (Z * S) = a * Z * S := fun a => (Nat.mul_assoc _ _ _).symm
     have c2 : 2 * (N * S) = 2 * N * S := (Nat.mul_assoc _ _ _).symm
     have hqz : Z * q = q * Z := Nat.mul_comm _ _
     have e3 : (2 * q + 1) * Z = 2 * (q * Z) + Z := by rw [Nat.add_mul, Nat.one_mul, Nat.mul_assoc]
     have e4 : (q + 1) * Z = q * Z + Z := by rw [Nat.add_mul, Nat.one_mul]
     simp only [c1, c2]
     refine ⟨Nat.mul_le_mul_right _ (by omega), Nat.mul_lt_mul_of_pos_right (by omega) hS, ?_⟩
     cases hr : rupN D nd t d with
     | false =>
       rw [if_neg (fun h => by simp at h)]
       refine .inl ⟨rfl, (f1 hr).imp (fun h => Nat.mul_lt_mul_of_pos_right (by omega) hS) fun h => ⟨?_, h.2⟩⟩
       rw [show 2 * N = (2 * q + 1) * Z by omega]
     | true =>
       rw [if_pos ⟨Int.natCast_nonneg _, rfl⟩]
       refine .inr ⟨rfl, (f2 hr).imp (fun h => Nat.mul_lt_mul_of_pos_right (by omega) hS) fun h => ⟨?_, h.2⟩⟩
       rw [show 2 * N = (2 * q + 1) * Z by omega]
   · have hr : rupN D nd t d = false := by unfold rupN; rw [decide_eq_false hd]; rfl
     rw [if_neg hd, hr, if_neg (fun h => by simp at h)]
     have e1 := sc_add (a := 0) (d - nd) (by omega)
     rw [show (0 : Int) + ((d - nd : Nat) : Int) = (d : Int) - nd by omega] at e1
     have eV : N * sc ((d : Int) - nd) * tw 0 = N * 10 ^ (d - nd) * (sc 0 * tw 0) := by rw [e1]; simp only [Nat.mul_assoc]
     have hU : 0 < sc 0 * tw 0 := Nat.mul_pos (sc_pos _) (tw_pos _)
     rw [eV]
     generalize sc 0 * tw 0 = U at *
     generalize N * 10 ^ (d - nd) = q at *
     have e3 : (2 * q + 1) * U = 2 * (q * U) + U := by rw [Nat.add_mul, Nat.one_mul, Nat.mul_assoc]
     have e4 : (q + 1) * U = q * U + U := by rw [Nat.add_mul, Nat.one_mul]
     exact ⟨Nat.le_refl _, by omega, .inl ⟨rfl, .inl (by omega)⟩⟩
theorem DcS.rounded {k : Nat} (h : DcS M p s j D nd dp t N) (hj : j ≤ 5000) (hs : s + (k : Int) = 1074) (hs1 : -1000 ≤ s) (hc : (-(pA : Int) ≤ p ∧ 0 ≤ s) ∨ -(pB : Int) ≤ p) (hq : intQ N nd dp < 9007199254740992) (hk : k = 0 ∨ 4503599627370496 ≤ intQ N nd dp) :
 Near (vN M p) (vD p) (min (k * 4503599627370496 + rndN D N nd dp t) 9218868437227405312) := by
 obtain ⟨c1, c2, c3⟩ := int_cmp (t := t) h.num h.n0 h.st.low.1
 have hU : 0 < sc 0 * tw 0 := Nat.mul_pos (sc_pos _) (tw_pos _)
 have htw := h.st.twice hj
 have hY : M * sc p * tw s < 2 ^ 54 * (sc 0 * tw 0) := by
  have h1 : (intQ N nd dp + 1) * (sc 0 * tw 0) ≤ 9007199254740992 * (sc 0 * tw 0) := Nat.mul_le_mul_right _ hq
  generalize M * sc p * tw s = Y at *
  generalize N * sc (dp - nd) * tw 0 = V at *
  generalize sc 0 * tw 0 = U at *
  omega
 have hd : ∀ H : Nat, 2 * (M * sc p * tw s) = H * (sc 0 * tw 0) → t = false := fun H e => by
  refine h.half (H := H) (by omega) (by omega) ?_ e
  rcases Nat.lt_or_ge (2 ^ 55) H with hx | hx
  · exfalso
    have h2 : 2 ^ 55 * (sc 0 * tw 0) ≤ H * (sc 0 * tw 0) := Nat.mul_le_mul_right _ (Nat.le_of_lt hx)
    generalize M * sc p * tw s = Y at *
    generalize sc 0 * tw 0 = U at *
    omega
  · exact hx
 obtain ⟨a, b, ha, hb, hpa, hsb, hE⟩ : ∃ a b : Nat, a ≤ 3000 ∧ b ≤ 4000 ∧ -(a : Int) ≤ p ∧ -(b : Int) ≤ s ∧ j * 2 ^ 55 * (10 ^ a * 2 ^ b) < bigE := by
  rcases hc with ⟨hp, hs0⟩ | hp
  · exact ⟨pA, 0, by unfold pA; omega, by omega, hp, by omega, bigE_small hj⟩
  · exact ⟨pB, pC, by unfold pB; omega, by unfold pC; omega, hp, by unfold pC; omega, bigE_great hj⟩
 obtain ⟨r1, r2, r3, r4, r5⟩ := h.st.round (q := intQ N nd dp) bigE_pos hpa hsb ha hb hE hY hd c1 c2
 refine near_dec h.st.low.2.1 hs h.st.low.2.2 hk hq r1 r2 ?_
 rcases c3 with ⟨e, hx | ⟨hx, ht, hev⟩⟩ | ⟨e, hx | ⟨hx, ho⟩⟩
 · exact .inl ⟨e, .inl (r3 hx)⟩
 · exact .inl ⟨e, .inr ⟨((r5 hx.symm).1 ht).symm, hev⟩⟩
 · exact .inr ⟨e, .inl (r4 hx)⟩
 · refine .inr ⟨e, ?_⟩
   cases ht : t with
   | true => exact .inl ((r5 hx.symm).2 ht)
   | false =>
     rcases ho with h1 | h1
     · rw [ht] at h1; cases h1
     · exact .inr ⟨((r5 hx.symm).1 ht).symm, h1⟩
end
end Go.Proofs.YtjapgpmoojfhnaaGreatDoor.Fl
