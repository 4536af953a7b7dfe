/- Numerals of a known form, and what is read out of them. -/
import Derived.Test.YtmgafnflkfbckaaGreatDoorPlain7
import Derived.Test.YtmgafnflkfbckaaGreatDoorPlain4
namespace Go.Proofs.YtmgafnflkfbckaaGreatDoor.Dc
open Go Go.Lib

theorem vals_append (a b : List UInt8) : vals (a ++ b) = vals a ++ vals b := by simp [vals]
theorem vals_digB {l : List Nat} (h : Digs l) : vals (digB l) = l := digB_val h
theorem vals_zeros (k : Nat) : vals (List.replicate k 48) = List.replicate k 0 := by simp [vals]
theorem vals_len (l : List UInt8) : (vals l).length = l.length := by simp [vals]
theorem smallN_snoc (K : Nat) (l : List UInt8) (b : UInt8) : smallN K (l ++ [b]) = min (10 * smallN K l + (b.toNat - 48)) K := by simp [smallN, List.foldl_append]
theorem num_snoc (l : List Nat) (x : Nat) : num (l ++ [x]) = 10 * num l + x := by rw [num_append]; simp [num]; omega
theorem smallN_num (K : Nat) (l : List UInt8) : smallN K l = min (num (vals l)) K := by
  induction hn : l.length generalizing l with
  | zero =>
    have : l = [] := List.length_eq_zero_iff.1 hn
    subst this; simp [smallN, vals, num]
  | succ n ih =>
    have hne : l ≠ [] := by intro e; subst e; simp at hn
    obtain ⟨l', y, rfl⟩ : ∃ l' y, l = l' ++ [y] := ⟨l.dropLast, l.getLast hne, (List.dropLast_concat_getLast hne).symm⟩
    have e : vals [y] = [y.toNat - 48] := rfl
    rw [smallN_snoc, ih l' (by simpa using hn), vals_append, e, num_snoc]
    omega
theorem num_dec (u : Nat) : num (vals (decDigits u)) = u := by
  induction u using Nat.strongRecOn with
  | _ u ih =>
    rw [decDigits]
    by_cases h10 : u < 10
    · rw [dif_pos h10]
      have e : vals [UInt8.ofNat (48 + u)] = [u] := by
        show [(UInt8.ofNat (48 + u)).toNat - 48] = [u]
        rw [dig_toNat h10]; congr 1; omega
      rw [e]; simp [num]
    · rw [dif_neg h10, vals_append]
      have e : vals [UInt8.ofNat (48 + u % 10)] = [u % 10] := by
        show [(UInt8.ofNat (48 + u % 10)).toNat - 48] = [u % 10]
        rw [dig_toNat (by omega)]; congr 1; omega
      rw [e, num_snoc, ih (u / 10) (by omega)]
      omega
theorem small_dec {K u : Nat} (h : u ≤ K) : smallN K (decDigits u) = u := by rw [smallN_num, num_dec]; omega
theorem dec_all (u : Nat) : (decDigits u).all isDig = true := List.all_eq_true.2 fun b hb => isDig_iff.2 (dec_mem u b hb)
/-- Digits in front of something else. -/
theorem runN_front {I R : List UInt8} (hI : I.all isDig = true) (hR : ∀ d, R.head? = some d → isDig d = false) : runN (I ++ R) = I.length := by
  refine runN_is (by simp) (fun j d hj hd => ?_) ?_
  · rw [List.getElem?_append_left hj] at hd
    exact List.all_eq_true.1 hI d (List.mem_of_getElem? hd)
  · cases R with
    | nil => left; simp
    | cons b R => exact Or.inr ⟨b, by simp, hR b rfl⟩
theorem runN_all {I : List UInt8} (hI : I.all isDig = true) : runN I = I.length := by
  have := runN_front (I := I) (R := []) hI (fun d h => by cases h)
  simpa using this
def fracB (F : List UInt8) : List UInt8 := if F = [] then [] else 46 :: F
def expB : Option Int → List UInt8
  | none => []
  | some n => 101 :: itoa n
def expV : Option Int → Int
  | none => 0
  | some n => n
theorem dec_head (u : Nat) : ∃ b r, decDigits u = b :: r ∧ 48 ≤ b.toNat ∧ b.toNat ≤ 57 := by
  cases h : decDigits u with
  | nil => exact absurd h (dec_ne _)
  | cons b r => exact ⟨b, r, rfl, dec_mem u b (by rw [h]; simp)⟩
theorem tail_exp {K : Nat} {X : Option Int} (hX : ∀ n, X = some n → n.natAbs ≤ K) : numTail K (expB X) = some (expV X) := by
  cases X with
  | none => rfl
  | some n =>
    have hn := hX n rfl
    rw [expB, numTail, if_pos (Or.inl rfl), expV, itoa]
    by_cases h : n < 0
    · rw [if_pos h]
      have e1 : runN (decDigits n.natAbs) = (decDigits n.natAbs).length := runN_all (dec_all _)
      simp only [List.head?_cons, true_or, if_true, List.drop_succ_cons, List.drop_zero]
      rw [if_neg (by rintro (h | h); exact dec_ne _ h; exact h e1), small_dec hn]
      congr 1; omega
    · rw [if_neg h]
      obtain ⟨b, r, hb, h1, h2⟩ := dec_head n.toNat
      have e1 : runN (decDigits n.toNat) = (decDigits n.toNat).length := runN_all (dec_all _)
      have h45 : (decDigits n.toNat).head? ≠ some 45 := by rw [hb]; intro e; simp at e; subst e; simp at h1
      have h43 : (decDigits n.toNat).head? ≠ some 43 := by rw [hb]; intro e; simp at e; subst e; simp at h1
      simp only [h45, h43, or_self, if_false]
      rw [if_neg (by rintro (h | h); exact dec_ne _ h; exact h e1), small_dec (by omega)]
      congr 1; omega
theorem exp_head {X : Option Int} {d : UInt8} (h : (expB X).head? = some d) : d = 101 := by
  cases X with
  | none => cases h
  | some n => simp [expB] at h; exact h.symm
theorem frac_head {F : List UInt8} {X : Option Int} {d : UInt8} (h : (fracB F ++ expB X).head? = some d) : isDig d = false := by
  rw [fracB] at h
  split at h
  · obtain rfl := exp_head (X := X) (d := d) (by simpa using h)
    rfl
  · simp at h; subst h; rfl
/-- A numeral by its parts. -/
theorem numP_build {K : Nat} {g : Bool} {I F : List UInt8} {X : Option Int} (hI : I.all isDig = true) (hF : F.all isDig = true) (hne : I ≠ []) (h0 : 1 < I.length → I.head? ≠ some 48) (hX : ∀ n, X = some n → n.natAbs ≤ K) :
    numP K (sgnB g ++ (I ++ (fracB F ++ expB X))) = some (norm g (vals I ++ vals F) (-(F.length : Int) + expV X)) := by
  obtain ⟨b, I', rfl⟩ : ∃ b r, I = b :: r := by
    cases I with
    | nil => exact absurd rfl hne
    | cons b r => exact ⟨b, r, rfl⟩
  have hb := isDig_iff.1 (List.all_eq_true.1 hI b (by simp))
  have hb45 : b ≠ 45 := by intro e; subst e; simp at hb
  obtain ⟨T, hT⟩ : ∃ T, fracB F ++ expB X = T := ⟨_, rfl⟩
  have hu : unsign (sgnB g ++ (b :: I' ++ T)) = b :: I' ++ T := by
    cases g with
    | true => simp [unsign, sgnB]
    | false => simp [unsign, sgnB, hb45]
  have hh : ((sgnB g ++ (b :: I' ++ T)).head? == some 45) = g := by
    cases g with
    | true => simp [sgnB]
    | false => simp [sgnB, hb45]
  have hrun : runN (b :: I' ++ T) = (b :: I').length := runN_front hI fun d hd => frac_head (hT ▸ hd)
  rw [hT, numP, hu, hh, hrun]
  have hbad : badLead (b :: I' ++ T) = false := by
    rw [badLead, hrun]
    have h1 : ¬ (b :: I').length = 0 := by simp
    by_cases h2 : 1 < (b :: I').length
    · have h3 := h0 h2
      have h4 : ¬ (b :: I' ++ T).head? = some 48 := by simpa using h3
      simp only [h1, h4, decide_false, Bool.and_false, Bool.or_false]
    · simp only [h1, h2, decide_false, Bool.false_and, Bool.or_false]
  rw [hbad, if_neg (by simp), List.take_left, List.drop_left, ← hT]
  have hfr : numFrac K (vals (b :: I')) (fracB F ++ expB X) = some (vals (b :: I') ++ vals F, -(F.length : Int) + expV X) := by
    rw [numFrac, fracB]
    by_cases hFn : F = []
    · subst hFn
      rw [if_pos rfl, List.nil_append, if_neg (by intro h; exact absurd (exp_head h) (by decide)), tail_exp hX]
      simp [vals]
    · rw [if_neg hFn]
      have hr : runN (F ++ expB X) = F.length := runN_front hF fun d hd => by rw [exp_head hd]; rfl
      have hl : 0 < F.length := List.length_pos_iff.2 hFn
      simp only [List.cons_append, List.head?_cons, if_true, List.drop_succ_cons, List.drop_zero, hr]
      rw [if_neg (by omega), List.drop_left, List.take_left, tail_exp hX]
      rfl
  rw [hfr]
  rfl
theorem norm_is {x : D} {L : List Nat} {E : Int} (hx : Normal x) (hd : Digs L) (h : ∀ f, f ≤ E → f ≤ x.e → num L * 10 ^ (E - f).toNat = num x.c * 10 ^ (x.e - f).toNat) : norm x.neg L E = x := by
  have h1 := norm_val (neg := x.neg) (l := L) (e := E) (f := min E x.e) (by omega)
  refine V_inj (f := min E x.e) (norm_normal hd) hx h1.2 (Or.inr (by omega)) ?_
  rw [h1.1, V]
  have := h (min E x.e) (by omega) (by omega)
  congr 1
  exact_mod_cast this
theorem digB_not48_1 {x : D} (h : Normal x) : (digB x.c).head? ≠ some 48 := digB_not48 h.1 h.2.2.1
theorem norm_zero_of {neg : Bool} {l : List Nat} {e : Int} (h : num l = 0) : norm neg l e = ⟨false, [], 0⟩ := by
  rw [norm]
  by_cases hl : lead l = []
  · rw [if_pos hl]
  · exfalso
    rw [← num_lead] at h
    have h1 := num_ge (fun u hu => lead_head (l := l) hu) hl
    have h2 : 0 < 10 ^ ((lead l).length - 1) := Nat.pow_pos (by omega)
    omega
theorem canon_nil {x : D} (h : Canon x) (hc : x.c = []) : x = ⟨false, [], 0⟩ := by
  obtain ⟨a, b⟩ := h.1.2.1 hc
  cases x; simp_all
/-- The canonical text is a numeral of its number. -/
theorem numP_show {K : Nat} {x : D} (hK : 2000 ≤ K) (h : Canon x) : numP K (showB x) = some x := by
  obtain ⟨_, h2, h3⟩ := limit_ok.1 h.2
  have hX : ∀ n, some x.e = some n → n.natAbs ≤ K := by intro n e; injection e with e; omega
  rw [showB, coefB]
  by_cases hc : x.c = []
  · rw [if_pos hc]
    have := numP_build (K := K) (g := false) (I := [48]) (F := []) (X := some x.e) rfl rfl (by simp) (by simp) hX
    simp only [sgnB, fracB, expB, Bool.false_eq_true, if_false, if_true, List.nil_append] at this
    rw [this, norm_zero_of (by simp [vals, num]), canon_nil h hc]
  · rw [if_neg hc]
    have hne : digB x.c ≠ [] := by simpa [digB] using hc
    have := numP_build (K := K) (g := x.neg) (I := digB x.c) (F := []) (X := some x.e) (digB_all h.1.1) rfl hne (fun _ => digB_not48_1 h.1) hX
    simp only [fracB, expB, if_true, List.nil_append] at this
    rw [List.append_assoc, this, vals_digB h.1.1, expV]
    simp only [vals, List.map_nil, List.append_nil, List.length_nil]
    rw [show (-((0 : Nat) : Int) + x.e) = x.e by omega, norm_self h.1]
/-- The text of a canonical number is a numeral of it. -/
theorem numP_text {K : Nat} {x : D} (hK : 10000 ≤ K) (h : Canon x) : numP K (textB x) = some x := by
  obtain ⟨h1, h2, h3⟩ := limit_ok.1 h.2
  have hD := h.1.1
  rw [textB]
  by_cases hc : x.c.length = 0
  · rw [if_pos hc]
    have := numP_build (K := K) (g := false) (I := [48]) (F := [48]) (X := none) rfl rfl (by simp) (by simp) (fun n e => by cases e)
    simp only [sgnB, fracB, expB, Bool.false_eq_true, if_false, List.nil_append, List.append_nil] at this
    rw [if_neg (by simp)] at this
    have e : ([48] ++ [46, 48] : List UInt8) = [48, 46, 48] := rfl
    rw [e] at this
    rw [this, norm_zero_of (by simp [vals, num]), canon_nil h (List.length_eq_zero_iff.1 hc)]
  · rw [if_neg hc]
    have hcn : x.c ≠ [] := by intro e; rw [e] at hc; simp at hc
    have hne : digB x.c ≠ [] := by simpa [digB] using hcn
    have hl := digB_len x.c
    by_cases c1 : 0 ≤ x.e ∧ (x.c.length : Int) + x.e + 1 ≤ 20
    · rw [if_pos c1]
      have hall : (digB x.c ++ List.replicate x.e.toNat 48).all isDig = true := by
        rw [List.all_append, digB_all hD, Bool.true_and]
        refine List.all_eq_true.2 fun b hb => ?_
        rw [(List.mem_replicate.1 hb).2]; rfl
      have hh : (digB x.c ++ List.replicate x.e.toNat 48).head? ≠ some 48 := by
        have := digB_not48_1 h.1
        cases hq : digB x.c with
        | nil => exact absurd hq hne
        | cons b r => rw [hq] at this; simpa using this
      have := numP_build (K := K) (g := x.neg) (I := digB x.c ++ List.replicate x.e.toNat 48) (F := [48]) (X := none) hall rfl (by simp [hne]) (fun _ => hh) (fun n e => by cases e)
      rw [fracB, if_neg (by simp), expB, List.append_nil, List.append_assoc] at this
      rw [this]
      refine congrArg some (norm_is h.1 ?_ ?_)
      · exact digs_append (vals_digs hall) (vals_digs (l := [48]) rfl)
      · intro f hf hf2
        simp only [expV, List.length_singleton] at hf ⊢
        rw [vals_append, vals_digB hD, vals_zeros, num_append, num_append, num_zeros]
        simp only [vals, List.map_cons, List.map_nil, num, List.length_replicate, List.length_singleton]
        rw [show (x.e - f).toNat = x.e.toNat + 1 + (-((1 : Nat) : Int) + 0 - f).toNat by omega, Nat.pow_add, Nat.pow_add]
        simp [Nat.mul_assoc]
    · rw [if_neg c1]
      by_cases c2 : x.e < 0 ∧ -x.e < (x.c.length : Int) ∧ x.c.length ≤ 20
      · rw [if_pos c2]
        obtain ⟨k, hk⟩ : ∃ k, ((x.c.length : Int) + x.e).toNat = k := ⟨_, rfl⟩
        rw [hk]
        have ht : ((digB x.c).take k).all isDig = true := List.all_eq_true.2 fun b hb => List.all_eq_true.1 (digB_all hD) b (List.mem_of_mem_take hb)
        have hd : ((digB x.c).drop k).all isDig = true := List.all_eq_true.2 fun b hb => List.all_eq_true.1 (digB_all hD) b (List.mem_of_mem_drop hb)
        have hk0 : 0 < k := by omega
        have hkl : k < (digB x.c).length := by omega
        have hh : ((digB x.c).take k).head? ≠ some 48 := by rw [List.head?_take, if_neg (by omega)]; exact digB_not48_1 h.1
        have hdn : (digB x.c).drop k ≠ [] := by intro e; have := congrArg List.length e; rw [List.length_drop, List.length_nil] at this; omega
        have := numP_build (K := K) (g := x.neg) (I := (digB x.c).take k) (F := (digB x.c).drop k) (X := none) ht hd (by intro e; have := congrArg List.length e; rw [List.length_take, List.length_nil] at this; omega) (fun _ => hh) (fun n e => by cases e)
        rw [fracB, if_neg hdn, expB, List.append_nil] at this
        rw [this, ← vals_append, List.take_append_drop, vals_digB hD, List.length_drop, expV, show (-(((digB x.c).length - k : Nat) : Int) + 0) = x.e by omega, norm_self h.1]
      · rw [if_neg c2]
        by_cases c3 : x.e < 0 ∧ (x.c.length : Int) ≤ -x.e ∧ 1 - x.e ≤ 20
        · rw [if_pos c3]
          obtain ⟨k, hk⟩ : ∃ k, (-x.e - (x.c.length : Int)).toNat = k := ⟨_, rfl⟩
          rw [hk]
          have hall : (List.replicate k 48 ++ digB x.c).all isDig = true := by
            rw [List.all_append, digB_all hD, Bool.and_true]
            refine List.all_eq_true.2 fun b hb => ?_
            rw [(List.mem_replicate.1 hb).2]; rfl
          have := numP_build (K := K) (g := x.neg) (I := [48]) (F := List.replicate k 48 ++ digB x.c) (X := none) rfl hall (by simp) (by simp) (fun n e => by cases e)
          rw [fracB, if_neg (by simp [hne]), expB, List.append_nil] at this
          simp only [List.singleton_append] at this
          rw [this]
          refine congrArg some (norm_is h.1 (digs_append (vals_digs (l := [48]) rfl) (vals_digs hall)) ?_)
          intro f hf hf2
          simp only [expV, List.length_append, List.length_replicate, digB_len] at hf ⊢
          rw [vals_append, vals_digB hD, vals_zeros, num_append, num_append, num_zeros]
          simp only [vals, List.map_cons, List.map_nil, num]
          rw [show (-((k + x.c.length : Nat) : Int) + 0 - f).toNat = (x.e - f).toNat by omega]
          simp
        · rw [if_neg c3]
          have hX : ∀ n, some (x.e + x.c.length - 1) = some n → n.natAbs ≤ K := by intro n e; injection e with e; omega
          by_cases c4 : 1 < x.c.length
          · rw [if_pos c4]
            have ht : ((digB x.c).take 1).all isDig = true := List.all_eq_true.2 fun b hb => List.all_eq_true.1 (digB_all hD) b (List.mem_of_mem_take hb)
            have hd : ((digB x.c).drop 1).all isDig = true := List.all_eq_true.2 fun b hb => List.all_eq_true.1 (digB_all hD) b (List.mem_of_mem_drop hb)
            have hdn : (digB x.c).drop 1 ≠ [] := by intro e; have := congrArg List.length e; rw [List.length_drop, List.length_nil] at this; omega
            have := numP_build (K := K) (g := x.neg) (I := (digB x.c).take 1) (F := (digB x.c).drop 1) (X := some (x.e + x.c.length - 1)) ht hd (by intro e; have := congrArg List.length e; rw [List.length_take, List.length_nil] at this; omega) (fun hh => by rw [List.length_take] at hh; omega) hX
            rw [fracB, if_neg hdn, expB] at this
            rw [List.append_assoc, this, ← vals_append, List.take_append_drop, vals_digB hD, List.length_drop, expV, show (-(((digB x.c).length - 1 : Nat) : Int) + (x.e + x.c.length - 1)) = x.e by omega, norm_self h.1]
          · rw [if_neg c4]
            have := numP_build (K := K) (g := x.neg) (I := digB x.c) (F := []) (X := some (x.e + x.c.length - 1)) (digB_all hD) rfl hne (fun hh => by omega) hX
            rw [fracB, if_pos rfl, expB, List.nil_append] at this
            rw [this, vals_digB hD, expV, List.length_nil, show (-((0 : Nat) : Int) + (x.e + x.c.length - 1)) = x.e by omega]
            simp only [vals, List.map_nil, List.append_nil]
            rw [norm_self h.1]
/-- The reference's Read. -/
def refReadP (l : List UInt8) : Option D := match numP 1000000 l with
  | some x => if limit x = 0 ∧ showB x = l then some x else none
  | none => none
theorem refReadP_eq (l : List UInt8) : refReadP l = readP l := by
  cases hr : readP l with
  | some x =>
    obtain ⟨h1, h2⟩ := readP_some hr
    rw [refReadP, ← h2, numP_show (by omega) h1]
    simp [h1.2]
  | none =>
    rw [refReadP]
    cases hn : numP 1000000 l with
    | none => rfl
    | some x =>
      simp only
      by_cases h : limit x = 0 ∧ showB x = l
      · exact absurd h.2 (readP_none.1 hr x ⟨(numP_bound hn).1, h.1⟩)
      · rw [if_neg h]

/-- The exponent as far as the digits are counted. -/
def numTailX : List UInt8 → Option (Bool × Nat)
  | [] => some (false, 0)
  | b :: r =>
    if b = 101 ∨ b = 69 then
      let t := if r.head? = some 45 ∨ r.head? = some 43 then r.drop 1 else r
      if t = [] ∨ runN t ≠ t.length then none else some (decide (r.head? = some 45), num (vals t))
    else none
theorem tailX (K : Nat) (l : List UInt8) : numTail K l = (numTailX l).map fun p => sgn p.1 (min p.2 K : Nat) := by
  cases l with
  | nil => simp [numTail, numTailX, sgn]
  | cons b r =>
    rw [numTail, numTailX]
    split
    · simp only
      generalize (if r.head? = some 45 ∨ r.head? = some 43 then r.drop 1 else r) = t
      split
      · rfl
      · rw [Option.map_some, smallN_num]
        simp only [sgn]
        by_cases h : r.head? = some 45 <;> simp [h]
    · rfl
theorem numP_form (l : List UInt8) : (∀ K, numP K l = none) ∨ ∃ (g : Bool) (c : List Nat) (f : Int) (s : Bool) (N : Nat), Digs c ∧ c.length ≤ l.length ∧ -(l.length : Int) ≤ f ∧ f ≤ 0 ∧ ∀ K, numP K l = some (norm g c (f + sgn s (min N K : Nat))) := by
  by_cases hb : badLead (unsign l) = true
  · left; intro K; rw [numP, if_pos hb]
  · have hu := unsign_len l
    have hr := runN_le (unsign l)
    have e : ∀ K, numP K l = (numFrac K (vals ((unsign l).take (runN (unsign l)))) ((unsign l).drop (runN (unsign l)))).map fun p => norm (l.head? == some 45) p.1 p.2 := fun K => by rw [numP, if_neg hb]
    simp only [e]
    obtain ⟨c, hc⟩ : ∃ c, vals ((unsign l).take (runN (unsign l))) = c := ⟨_, rfl⟩
    obtain ⟨s, hs⟩ : ∃ s, (unsign l).drop (runN (unsign l)) = s := ⟨_, rfl⟩
    have hcd : Digs c := hc ▸ vals_digs runN_dig
    have hcl : c.length + s.length = (unsign l).length := by rw [← hc, ← hs, vals_len, List.length_take, List.length_drop]; omega
    rw [hc, hs]
    by_cases h1 : s.head? = some 46
    · by_cases h2 : runN (s.drop 1) = 0
      · left; intro K; rw [numFrac, if_pos h1, if_pos h2]; rfl
      · cases ht : numTailX (s.drop (runN (s.drop 1) + 1)) with
        | none => left; intro K; rw [numFrac, if_pos h1, if_neg h2, tailX, ht]; rfl
        | some p =>
          right
          have hr2 := runN_le (s.drop 1)
          rw [List.length_drop] at hr2
          refine ⟨(l.head? == some 45), c ++ vals ((s.drop 1).take (runN (s.drop 1))), -(runN (s.drop 1) : Int), p.1, p.2, digs_append hcd (vals_digs runN_dig), ?_, by omega, by omega, fun K => ?_⟩
          · rw [List.length_append, vals_len, List.length_take, List.length_drop]; omega
          · rw [numFrac, if_pos h1, if_neg h2, tailX, ht]; rfl
    · cases ht : numTailX s with
      | none => left; intro K; rw [numFrac, if_neg h1, tailX, ht]; rfl
      | some p => exact Or.inr ⟨(l.head? == some 45), c, 0, p.1, p.2, hcd, by omega, by omega, by omega, fun K => by rw [numFrac, if_neg h1, tailX, ht]; rfl⟩
theorem norm_coef (g : Bool) (c : List Nat) (e e' : Int) : (norm g c e).c = (norm g c e').c := by
  rw [norm, norm]; split <;> rfl
theorem norm_far {g : Bool} {c : List Nat} {e e' : Int} {m : Nat} (hc : c.length ≤ m) (h : (2000 < e ∧ 2000 < e') ∨ (e < -2000 - m ∧ e' < -2000 - m)) : norm g c e = norm g c e' ∨ (limit (norm g c e) = limit (norm g c e') ∧ limit (norm g c e) ≠ 0) := by
  by_cases hl : lead c = []
  · left; rw [norm, norm, if_pos hl, if_pos hl]
  · right
    have h1 := trail_le (lead c)
    have h2 := lead_len c
    have h3 : (norm g c e).e = e + (trail (lead c) : Int) := by rw [norm, if_neg hl]
    have h4 : (norm g c e').e = e' + (trail (lead c) : Int) := by rw [norm, if_neg hl]
    rw [limit, limit, h3, h4, norm_coef g c e' e]
    split
    · exact ⟨rfl, by omega⟩
    · rw [if_pos (by omega), if_pos (by omega)]; exact ⟨rfl, by omega⟩
/-- How far the digits of an exponent are counted does not matter. -/
theorem numP_far {K K' : Nat} (hK : 1000000 ≤ K) (hK' : 1000000 ≤ K') {l : List UInt8} (hl : l.length ≤ 10000) : (numP K l = none ∧ numP K' l = none) ∨ ∃ x y, numP K l = some x ∧ numP K' l = some y ∧ (x = y ∨ (limit x = limit y ∧ limit x ≠ 0)) := by
  rcases numP_form l with h | ⟨g, c, f, s, N, h1, h2, h3, h4, h⟩
  · exact Or.inl ⟨h K, h K'⟩
  · refine Or.inr ⟨_, _, h K, h K', ?_⟩
    by_cases hN : N ≤ 1000000
    · left; rw [Nat.min_eq_left (by omega), Nat.min_eq_left (by omega)]
    · refine norm_far (m := 10000) (by omega) ?_
      cases s with
      | false => left; simp only [sgn]; simp; omega
      | true => right; simp only [sgn]; simp; omega
end Go.Proofs.YtmgafnflkfbckaaGreatDoor.Dc
