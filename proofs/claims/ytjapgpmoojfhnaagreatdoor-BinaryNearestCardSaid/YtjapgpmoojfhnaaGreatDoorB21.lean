/- Rows of decimal digits, least significant first: their values and their order. ref03's size: rows of digits compared as numbers. ref03's minus: a row of digits less another. ref03's signed at a row without a sign. -/
import Derived.Test.YtjapgpmoojfhnaaGreatDoorB20
set_option maxHeartbeats 16000000
set_option maxRecDepth 100000
set_option linter.unusedSimpArgs false
set_option linter.unusedVariables false
namespace Go.Proofs.YtjapgpmoojfhnaaGreatDoor
open Go.RowKit Go.Lib
theorem dv_lt : ∀ {l : List Nat}, (∀ x ∈ l, x ≤ 9) → dv l < 10 ^ l.length
 | [], _ => by simp [dv]
 | d :: l, h => by
   have h1 := dv_lt (l := l) (fun x hx => h x (by simp [hx]))
   have h2 := h d (by simp)
   rw [dv, List.length_cons, Nat.pow_succ]
   omega
theorem dv_digL : ∀ u : Nat, dv (Fl.digL u) = u := by
 intro u
 induction u using Nat.strongRecOn with
 | ind u ih =>
   by_cases h : u = 0
   · rw [h, Fl.digL_zero]; rfl
   · rw [Fl.digL_pos h, dv, ih (u / 10) (by omega)]
     omega
theorem digL_le9 : ∀ (u : Nat), ∀ x ∈ Fl.digL u, x ≤ 9 := by
 intro u
 induction u using Nat.strongRecOn with
 | ind u ih =>
   intro x hx
   by_cases h : u = 0
   · rw [h, Fl.digL_zero] at hx; simp at hx
   · rw [Fl.digL_pos h] at hx
     rcases List.mem_cons.1 hx with h1 | h1
     · omega
     · exact ih (u / 10) (by omega) x h1
theorem digL_dv : ∀ {l : List Nat}, (∀ x ∈ l, x ≤ 9) → NoLead l → Fl.digL (dv l) = l
 | [], _, _ => by rw [dv, Fl.digL_zero]
 | d :: l, h, hn => by
   have h2 := h d (by simp)
   have h1 : ∀ x ∈ l, x ≤ 9 := fun x hx => h x (by simp [hx])
   have h4 := dv_pos hn (by simp)
   rw [Fl.digL_pos (by omega), dv, show (d + 10 * dv l) % 10 = d by omega, show (d + 10 * dv l) / 10 = dv l by omega]
   by_cases h0 : l = []
   · rw [h0, dv, Fl.digL_zero]
   · rw [digL_dv h1]
     right
     rcases hn with hn | ⟨e, h5, h6⟩
     · cases hn
     · refine ⟨e, ?_, h6⟩
       have hl : 0 < l.length := List.length_pos_iff.2 h0
       rw [List.length_cons, show l.length + 1 - 1 = (l.length - 1) + 1 by omega, List.getElem?_cons_succ] at h5
       exact h5
theorem digL_noLead (u : Nat) : NoLead (Fl.digL u) := by
 by_cases h : u = 0
 · left; rw [h, Fl.digL_zero]
 · right
   induction u using Nat.strongRecOn with
   | ind u ih =>
     rw [Fl.digL_pos h]
     by_cases h1 : u / 10 = 0
     · refine ⟨u, ?_, h⟩
       rw [h1, Fl.digL_zero, show u % 10 = u by omega]
       rfl
     · obtain ⟨d, h2, h3⟩ := ih (u / 10) (by omega) h1
       refine ⟨d, ?_, h3⟩
       have hl : 0 < (Fl.digL (u / 10)).length := by rw [Fl.digL_pos h1]; simp
       rw [List.length_cons, show (Fl.digL (u / 10)).length + 1 - 1 = ((Fl.digL (u / 10)).length - 1) + 1 by omega, List.getElem?_cons_succ]
       exact h2
theorem digL_trim {l : List Nat} {n m : Nat} (hn : l.length = n) (hd : ∀ x ∈ l, x ≤ 9) (h : Trimmed l n m) : l.take m = Fl.digL (dv l) := by
 subst hn
 rw [← dv_trim h]
 exact (digL_dv (fun x hx => hd x (List.mem_of_mem_take hx)) (noLead_trim h)).symm
theorem dv_ge {l : List Nat} (hn : NoLead l) (h0 : l ≠ []) : 10 ^ (l.length - 1) ≤ dv l := by
 rcases hn with h | ⟨d, h1, h2⟩
 · exact absurd h h0
 · have e : l = l.take (l.length - 1) ++ l.drop (l.length - 1) := (List.take_append_drop _ l).symm
   have e2 := dv_append (l.take (l.length - 1)) (l.drop (l.length - 1))
   rw [← e, dv_drop h1, List.length_take, Nat.min_eq_left (by omega)] at e2
   have := Nat.mul_le_mul_left (10 ^ (l.length - 1)) (show 1 ≤ d + 10 * dv (l.drop (l.length - 1 + 1)) by omega)
   omega
theorem dv_longer {a b : List Nat} (ha : ∀ x ∈ a, x ≤ 9) (hb : NoLead b) (h : a.length < b.length) : dv a < dv b := by
 have h1 := dv_lt ha
 have h2 := dv_ge hb (by intro h0; rw [h0] at h; simp at h)
 have h3 : 10 ^ a.length ≤ 10 ^ (b.length - 1) := Nat.pow_le_pow_right (by omega) (by omega)
 omega
theorem dv_split (l : List Nat) (k : Nat) (hk : k ≤ l.length) : dv l = dv (l.take k) + 10 ^ k * dv (l.drop k) := by
 have e2 := dv_append (l.take k) (l.drop k)
 rw [List.take_append_drop, List.length_take, Nat.min_eq_left hk] at e2
 exact e2
theorem dv_first {a b : List Nat} {k x y : Nat} (ha : ∀ x ∈ a, x ≤ 9) (hab : a.length = b.length) (hx : a[k]? = some x) (hy : b[k]? = some y) (he : a.drop (k + 1) = b.drop (k + 1)) (hxy : x < y) : dv a < dv b := by
 have hk : k < a.length := by
  rcases Nat.lt_or_ge k a.length with h1 | h1
  · exact h1
  · rw [List.getElem?_eq_none h1] at hx; cases hx
 have h1 := dv_split a k (by omega)
 have h2 := dv_split b k (by omega)
 rw [dv_drop hx] at h1
 rw [dv_drop hy, ← he] at h2
 have h3 := dv_lt (l := a.take k) (fun x hx => ha x (List.mem_of_mem_take hx))
 rw [List.length_take, Nat.min_eq_left (by omega)] at h3
 have h4 : 10 ^ k * (x + 10 * dv (a.drop (k + 1))) + 10 ^ k ≤ 10 ^ k * (y + 10 * dv (a.drop (k + 1))) := by
  rw [← Nat.mul_succ]
  exact Nat.mul_le_mul_left _ (by omega)
 omega
def cmpN (u v : Nat) : Int := if u < v then -1 else if u = v then 0 else 1
theorem cmpN_lt {u v : Nat} (h : u < v) : cmpN u v = -1 := if_pos h
theorem cmpN_eq (u : Nat) : cmpN u u = 0 := by unfold cmpN; rw [if_neg (by omega), if_pos rfl]
theorem cmpN_gt {u v : Nat} (h : v < u) : cmpN u v = 1 := by unfold cmpN; rw [if_neg (by omega), if_neg (by omega)]
theorem drop_eq {a b : List Nat} {k x : Nat} (hx : a[k]? = some x) (hy : b[k]? = some x) (he : a.drop (k + 1) = b.drop (k + 1)) : a.drop k = b.drop k := by
 have f : ∀ {l : List Nat}, l[k]? = some x → l.drop k = x :: l.drop (k + 1) := fun {l} h => by
  have hk : k < l.length := by
   rcases Nat.lt_or_ge k l.length with h1 | h1
   · exact h1
   · rw [List.getElem?_eq_none h1] at h; cases h
  rw [List.drop_eq_getElem_cons hk]
  rw [List.getElem?_eq_getElem hk] at h
  rw [Option.some.inj h]
 rw [f hx, f hy, he]
theorem dv_minus {a b o : List Nat} {i x y c c' d : Nat} (hx : a[i]? = some x) (hb : b[i]? = some y ∨ (b.length ≤ i ∧ y = 0)) (ho : o.length = i) (h : dv (a.take i) + c * 10 ^ i = dv o + dv (b.take i)) (hs : x + 10 * c' = d + y + c) :
 dv (a.take (i + 1)) + c' * 10 ^ (i + 1) = dv (o ++ [d]) + dv (b.take (i + 1)) := by
 have g : ∀ (l : List Nat) (x : Nat), l[i]? = some x → dv (l.take (i + 1)) = dv (l.take i) + 10 ^ i * x := fun l x hx => by
  have hk : i < l.length := by
   rcases Nat.lt_or_ge i l.length with h1 | h1
   · exact h1
   · rw [List.getElem?_eq_none h1] at hx; cases hx
  rw [List.take_add_one, hx, dv_append, List.length_take, Nat.min_eq_left (by omega)]
  simp [dv]
 have e1 := g a x hx
 have e2 : dv (b.take (i + 1)) = dv (b.take i) + 10 ^ i * y := by
  rcases hb with hb | ⟨hb, rfl⟩
  · exact g b y hb
  · rw [List.take_of_length_le (by omega), List.take_of_length_le (by omega)]; simp
 have e3 : dv (o ++ [d]) = dv o + 10 ^ i * d := by rw [dv_append, ho]; simp [dv]
 have e4 : 10 ^ i * (x + 10 * c') = 10 ^ i * (d + y + c) := by rw [hs]
 rw [e1, e2, e3, Nat.pow_succ]
 rw [Nat.mul_add, Nat.mul_add, Nat.mul_add] at e4
 have e5 : c' * (10 ^ i * 10) = 10 ^ i * (10 * c') := by
  rw [← Nat.mul_assoc, Nat.mul_comm c', Nat.mul_assoc, Nat.mul_comm c']
 have e6 : c * 10 ^ i = 10 ^ i * c := Nat.mul_comm _ _
 rw [e5]
 rw [e6] at h
 omega
theorem dv_minus_end {a b o : List Nat} {n c : Nat} (hn : a.length = n) (hb : b.length ≤ n) (ho : o.length = n) (hd : ∀ x ∈ o, x ≤ 9) (h : dv (a.take n) + c * 10 ^ n = dv o + dv (b.take n)) (hge : dv b ≤ dv a) : dv o = dv a - dv b := by
 rw [List.take_of_length_le (by omega), List.take_of_length_le hb] at h
 have h1 := dv_lt hd
 rw [ho] at h1
 have : c = 0 := by
  rcases Nat.eq_zero_or_pos c with h2 | h2
  · exact h2
  · have := Nat.mul_le_mul_right (10 ^ n) h2
    omega
 subst this
 omega
theorem size_any (A B : Option Addr) (n n2 c c2 : Nat) (la lb : List Nat) (w : World) (hr : Reads w w.heap.size A n (u8s la)) (h2 : Reads w w.heap.size B n2 (u8s lb)) (hn : n ≤ 1000000) (hn2 : n2 ≤ 1000000) (ha : ∀ x ∈ la, x ≤ 9) (hb : ∀ x ∈ lb, x ≤ 9) (na : NoLead la) (nb : NoLead lb) :
 Calls Tryz.prog 128 #[.slice A n c, .slice B n2 c2] w fun x w' => x = .returned (.int .i64 (cmpN (dv la) (dv lb))) ∧ Below w.heap.size w w' := by
 have hla : la.length = n := by have := hr.1; rwa [u8s_len] at this
 have hlb : lb.length = n2 := by have := h2.1; rwa [u8s_len] at this
 by_cases hne : n = n2
 · subst hne
   have w0 : IntKind.i64.wrap ((n : Int) - 1) = (n : Int) - 1 := IntWalk.i64_in _ (by omega)
   have HA := Lib.hid (And.intro hla (And.intro hlb (And.intro ha hb)))
   clear hla hlb ha hb na nb
   go_enter Tryz.func128, Tryz.ntmps128
   go_wp2_with fail
   go_loopg [5] n (fun f t wx => t = .int .i64 ((f : Int) - 1) ∧ f ≤ n ∧ la.drop f = lb.drop f ∧ Below w.heap.size w wx)
   case atStart => exact ⟨rfl, Nat.le_refl _, by rw [List.drop_of_length_le (by have := HA.out.1; omega), List.drop_of_length_le (by have := HA.out.2.1; omega)], Below.refl _ _⟩
   case round =>
    obtain ⟨rfl, hf, hdr, hk⟩ := hrel
    cases gk with
    | zero =>
      have c1 : decide ((0 : Int) ≤ ((0 : Nat) : Int) - 1) = false := by decide
      have c1b : decide ((0 : Int) ≤ -1) = false := by decide
      have E := Lib.hid (show cmpN (dv la) (dv lb) = 0 by rw [List.drop_zero, List.drop_zero] at hdr; rw [hdr]; exact cmpN_eq _)
      clear hdr
      go_wp2_with fail
      go_ret
      exact ⟨by rw [E.out]; rfl, by repeat (first | exact Below.refl _ _ | exact hk | apply below_drewN)⟩
    | succ f =>
      obtain ⟨b, off, u, rfl, hbA, hu, hcell⟩ := hr.at_ (k := f) (by omega)
      obtain ⟨x, hx, rfl⟩ := u8_at hu
      obtain ⟨b2, off2, u2, rfl, hbB, hu2, hcell2⟩ := h2.at_ (k := f) (by omega)
      obtain ⟨y, hy, rfl⟩ := u8_at hu2
      have hcellk := (hk.cell (p := ⟨b, off + f, none⟩) hbA).trans hcell
      have hcellk2 := (hk.cell (p := ⟨b2, off2 + f, none⟩) hbB).trans hcell2
      have e8 : (((f + 1 : Nat) : Int) - 1) = (f : Int) := by omega
      rw [e8]
      have c1 : decide ((0 : Int) ≤ (f : Int)) = true := decide_eq_true (by omega)
      have hf0 : (0 : Int) ≤ (f : Int) := by omega
      have hfn : (f : Int) < (n : Int) := by omega
      have g8 : IntKind.i64.wrap ((f : Int) - 1) = (f : Int) - 1 := IntWalk.i64_in _ (by omega)
      rcases Nat.lt_trichotomy x y with h | h | h
      · have d1 : decide ((x : Int) < (y : Int)) = true := decide_eq_true (by omega)
        have d1b : decide (x < y) = true := decide_eq_true h
        have E := Lib.hid (show cmpN (dv la) (dv lb) = -1 from cmpN_lt (dv_first HA.out.2.2.1 (by rw [HA.out.1, HA.out.2.1]) hx hy hdr h))
        clear h hx hy hdr hu hu2 e8
        go_wp2_with (first | go_quiet (fail) | fail)
        go_ret
        exact ⟨by rw [E.out]; rfl, by repeat (first | exact Below.refl _ _ | exact hk | apply below_drewN)⟩
      · subst h
        have d1 : decide ((x : Int) < (x : Int)) = false := decide_eq_false (by omega)
        have d1b : decide (x < x) = false := decide_eq_false (by omega)
        have E := Lib.hid (drop_eq hx hy hdr)
        clear hx hy hdr hu hu2 e8
        go_wp2_with (first | go_quiet (fail) | fail)
        go_roundg f
        case measure => omega
        case rel => exact ⟨rfl, by omega, E.out, by repeat (first | exact Below.refl _ _ | exact hk | apply below_drewN)⟩
      · have d1 : decide ((x : Int) < (y : Int)) = false := decide_eq_false (by omega)
        have d1b : decide (x < y) = false := decide_eq_false (by omega)
        have d2 : decide ((y : Int) < (x : Int)) = true := decide_eq_true (by omega)
        have d2b : decide (y < x) = true := decide_eq_true h
        have E := Lib.hid (show cmpN (dv la) (dv lb) = 1 from cmpN_gt (dv_first HA.out.2.2.2 (by rw [HA.out.1, HA.out.2.1]) hy hx hdr.symm h))
        clear h hx hy hdr hu hu2 e8
        go_wp2_with (first | go_quiet (fail) | fail)
        go_ret
        exact ⟨by rw [E.out]; rfl, by repeat (first | exact Below.refl _ _ | exact hk | apply below_drewN)⟩
 · by_cases hlt : n < n2
   · have E := Lib.hid (show cmpN (dv la) (dv lb) = -1 from cmpN_lt (dv_longer ha nb (by omega)))
     have d0 : ((n : Int) != (n2 : Int)) = true := by rw [bne_iff_ne]; omega
     have d1 : decide (n < n2) = true := decide_eq_true hlt
     have d1b : decide ((n : Int) < (n2 : Int)) = true := decide_eq_true (by omega)
     clear hr h2 hla hlb ha hb na nb hne hlt
     go_enter Tryz.func128, Tryz.ntmps128
     go_wp2_with fail
     go_ret
     exact ⟨by rw [E.out]; rfl, Below.refl _ _⟩
   · have E := Lib.hid (show cmpN (dv la) (dv lb) = 1 from cmpN_gt (dv_longer hb na (by omega)))
     have d0 : ((n : Int) != (n2 : Int)) = true := by rw [bne_iff_ne]; omega
     have d1 : decide (n < n2) = false := decide_eq_false hlt
     have d1b : decide ((n : Int) < (n2 : Int)) = false := decide_eq_false (by omega)
     clear hr h2 hla hlb ha hb na nb hne hlt
     go_enter Tryz.func128, Tryz.ntmps128
     go_wp2_with fail
     go_ret
     exact ⟨by rw [E.out]; rfl, Below.refl _ _⟩
theorem own_addr {w : World} {base : Nat} {e : TypeId} {A : Option Addr} {n c : Nat} {xs : List Value} (h : w.ownsRow base e 1 (.slice A n c) n xs) : ∀ b off, A = some ⟨b, off, none⟩ → base ≤ b := fun b off he => by
 subst he
 rcases h.2 with ⟨hv, _⟩ | ⟨g', cap, cur, hv, hb, _⟩
 · cases hv
 · injection hv with hv1
   cases hv1
   exact hb
theorem minus_any (A B : Option Addr) (n n2 c c2 : Nat) (la lb : List Nat) (w : World) (hr : Reads w w.heap.size A n (u8s la)) (h2 : Reads w w.heap.size B n2 (u8s lb)) (hn : n ≤ 1000000) (hn2 : n2 ≤ n) (ha : ∀ x ∈ la, x ≤ 9) (hb : ∀ x ∈ lb, x ≤ 9) (hge : dv lb ≤ dv la) :
 Calls Tryz.prog 129 #[.slice A n c, .slice B n2 c2] w fun x' w' => (∃ A' m c', m ≤ c' ∧ (∀ b off, A' = some ⟨b, off, none⟩ → w.heap.size ≤ b) ∧ Reads w' w'.heap.size A' m (u8s (Fl.digL (dv la - dv lb))) ∧ x' = .returned (.slice A' m c')) ∧ Below w.heap.size w w' := by
 obtain ⟨i0, hi, hz0, hz1, hz2⟩ := info_parts info5
 have hla : la.length = n := by have := hr.1; rwa [u8s_len] at this
 have hlb : lb.length = n2 := by have := h2.1; rwa [u8s_len] at this
 have HA := Lib.hid (And.intro hla (And.intro hlb (And.intro ha (And.intro hb hge))))
 clear hla hlb ha hb hge
 go_enter Tryz.func129, Tryz.ntmps129
 go_wp2_with fail
 go_loopg [5, 6, 7, 8] n (fun f t5 t6 t7 t8 wx => ∃ (i bo : Nat) (lo : List Nat), t7 = .int .i64 (i : Int) ∧ i + f = n ∧ t6 = .int .i64 (bo : Int) ∧ bo ≤ 1 ∧ lo.length = i ∧ (∀ x ∈ lo, x ≤ 9) ∧ dv (la.take i) + bo * 10 ^ i = dv lo + dv (lb.take i) ∧ wx.ownsRow w.heap.size 5 1 t5 i (u8s lo) ∧ Below w.heap.size w wx)
 case atStart => exact ⟨0, 0, [], rfl, by omega, rfl, by omega, rfl, by simp, by simp [dv], World.ownsRow_nil _ _ _ _, Below.refl _ _⟩
 case round =>
  obtain ⟨i, bo, lo, rfl, hif, rfl, hbo, hlo, hlo9, hdv, hown, hbx⟩ := hrel
  cases gk with
  | zero =>
    obtain rfl : i = n := by omega
    obtain ⟨A', c', rfl, hcc, hrd⟩ := own_slice hown
    have had := own_addr hown
    have TR := Lib.hid (trim85_any A' i c' lo wr hrd hcc (by omega))
    have HRD := Lib.hid (And.intro hrd (And.intro hlo (And.intro hlo9 hdv)))
    clear hown hrd hlo hlo9 hdv
    go_wp2_with fail
    refine (TR.out).mono ?_
    rintro y w7 ⟨⟨m, hm, rfl⟩, rfl⟩
    have HM := Lib.hid hm
    clear hm
    go_wp2_with fail
    go_ret
    obtain ⟨k1, k2, k3, k4⟩ := HRD.out
    obtain ⟨a1, a2, a3, a4, a5⟩ := HA.out
    have h3 := k1.take m HM.out.1
    have e : (u8s lo).take m = u8s (Fl.digL (dv la - dv lb)) := by
     rw [← dv_minus_end a1 (by omega) k2 k3 k4 a5, ← digL_trim k2 k3 HM.out]
     simp [u8s, List.map_take]
    rw [e] at h3
    have hm1 := HM.out.1
    exact ⟨⟨A', m, c', by omega, had, h3, rfl⟩, hbx⟩
  | succ f =>
    obtain ⟨b, off, u, rfl, hbA, hu, hcell0⟩ := hr.at_ (k := i) (by omega)
    obtain ⟨x, hx, rfl⟩ := u8_at hu
    have hcell := (hbx.cell (p := ⟨b, off + i, none⟩) hbA).trans hcell0
    have hx9 := HA.out.2.2.1 x (List.mem_of_getElem? hx)
    have hin : (i : Int) < (n : Int) := by omega
    have hi0 : (0 : Int) ≤ (i : Int) := by omega
    have g1 : IntKind.i64.wrap (x : Int) = (x : Int) := IntWalk.i64_in _ (by omega)
    have g2 : IntKind.i64.wrap ((x : Int) - (bo : Int)) = (x : Int) - (bo : Int) := IntWalk.i64_in _ (by omega)
    have g9 : IntKind.i64.wrap ((i : Int) + 1) = ((i + 1 : Nat) : Int) := by have := IntWalk.i64_in ((i : Int) + 1) (by omega); rw [this]; omega
    obtain ⟨A', c', rfl⟩ := own_form hown
    by_cases hi2 : i < n2
    · obtain ⟨b2, off2, u2, rfl, hbB, hu2, hcell02⟩ := h2.at_ (k := i) hi2
      obtain ⟨y, hy, rfl⟩ := u8_at hu2
      have hcell2 := (hbx.cell (p := ⟨b2, off2 + i, none⟩) hbB).trans hcell02
      have hy9 := HA.out.2.2.2.1 y (List.mem_of_getElem? hy)
      have d1 : decide ((i : Int) < (n2 : Int)) = true := decide_eq_true (by omega)
      have g3 : IntKind.i64.wrap (y : Int) = (y : Int) := IntWalk.i64_in _ (by omega)
      have g4 : IntKind.i64.wrap ((x : Int) - (bo : Int) - (y : Int)) = (x : Int) - (bo : Int) - (y : Int) := IntWalk.i64_in _ (by omega)
      have hyy : lb[i]? = some y ∨ (lb.length ≤ i ∧ y = 0) := .inl hy
      by_cases hneg : x < bo + y
      · obtain ⟨d, hd⟩ : ∃ d, x + 10 - bo - y = d := ⟨_, rfl⟩
        have g5 : decide ((x : Int) - (bo : Int) - (y : Int) < 0) = true := decide_eq_true (by omega)
        have g6 : IntKind.i64.wrap ((x : Int) - (bo : Int) - (y : Int) + 10) = (d : Int) := by have := IntWalk.i64_in ((x : Int) - (bo : Int) - (y : Int) + 10) (by omega); rw [this]; omega
        have g7 : IntKind.u8.wrap (d : Int) = (d : Int) := by rw [IntKind.wrap_u8]; omega
        have hnew := dv_minus (c' := 1) (d := d) hx hyy hlo hdv (by omega)
        have hd9 : d ≤ 9 := by omega
        obtain ⟨V, hV⟩ : ∃ V, u8s lo = V := ⟨_, rfl⟩
        rw [hV] at hown
        have HV := Lib.hid (And.intro hV (And.intro hnew (And.intro hlo (And.intro hlo9 hd9))))
        have hii : i + f + 1 = n := by omega
        clear hV hnew hlo hlo9 hd9 hdv hyy hneg hx hu hd hif
        go_wp2_with (at_builtin; refine wpList_append_own _ rfl _ _ 31 rfl w.heap.size 5 i0 (.int .u8 0) 1 1 Tryz.underlying31 hi hz0 hz1 hz2 rfl (by decide) _ _ _ rfl (hown.alloc _) ⟨wr.heap.size, 0, none⟩ 1 1 [.int .u8 (d : Int)] rfl rfl ?c1 ?c2 ?c3 ?c4 ?c5 ?_)
        case c1 =>
         intro j u' hj
         match j, hj with
         | 0, hj => simp at hj; subst hj; simp [Addr.add]
        case c2 => intro u' hu'; simp at hu'; subst hu'; rfl
        case c3 => unfold maxLen; omega
        case c4 => omega
        case c5 => have := hbx.size; simp <;> omega
        intro v' w3 hown3 hgr3 _
        have hb3 : Below w.heap.size wr w3 := ((Below.refl _ _).alloc hbx.size _).grown hgr3 (by have := hbx.size; simp <;> omega) (fun k hk => (hown.lt k hk).1)
        have H3 := Lib.hid (And.intro hown3 (hbx.trans hb3))
        clear hgr3 hown hown3 hb3
        go_wp2_with fail
        go_roundg f
        case measure => omega
        case rel =>
         obtain ⟨k1, k2, k3, k4, k5⟩ := HV.out
         refine ⟨i + 1, 1, lo ++ [d], rfl, by omega, rfl, by omega, by rw [List.length_append, k3]; rfl, ?_, k2, ?_, H3.out.2⟩
         · intro z hz
           rcases List.mem_append.1 hz with h | h
           · exact k4 z h
           · rw [List.mem_singleton.1 h]; exact k5
         · have e : u8s (lo ++ [d]) = V ++ [.int .u8 (d : Int)] := by rw [← k1]; simp [u8s]
           rw [e]
           exact H3.out.1
      · obtain ⟨d, hd⟩ : ∃ d, x - bo - y = d := ⟨_, rfl⟩
        replace g4 : IntKind.i64.wrap ((x : Int) - (bo : Int) - (y : Int)) = (d : Int) := by rw [g4]; omega
        have g5 : decide ((d : Int) < 0) = false := decide_eq_false (by omega)
        have g7 : IntKind.u8.wrap (d : Int) = (d : Int) := by rw [IntKind.wrap_u8]; omega
        have hnew := dv_minus (c' := 0) (d := d) hx hyy hlo hdv (by omega)
        have hd9 : d ≤ 9 := by omega
        obtain ⟨V, hV⟩ : ∃ V, u8s lo = V := ⟨_, rfl⟩
        rw [hV] at hown
        have HV := Lib.hid (And.intro hV (And.intro hnew (And.intro hlo (And.intro hlo9 hd9))))
        have hii : i + f + 1 = n := by omega
        clear hV hnew hlo hlo9 hd9 hdv hyy hneg hx hu hd hif
        go_wp2_with (at_builtin; refine wpList_append_own _ rfl _ _ 31 rfl w.heap.size 5 i0 (.int .u8 0) 1 1 Tryz.underlying31 hi hz0 hz1 hz2 rfl (by decide) _ _ _ rfl (hown.alloc _) ⟨wr.heap.size, 0, none⟩ 1 1 [.int .u8 (d : Int)] rfl rfl ?c1 ?c2 ?c3 ?c4 ?c5 ?_)
        case c1 =>
         intro j u' hj
         match j, hj with
         | 0, hj => simp at hj; subst hj; simp [Addr.add]
        case c2 => intro u' hu'; simp at hu'; subst hu'; rfl
        case c3 => unfold maxLen; omega
        case c4 => omega
        case c5 => have := hbx.size; simp <;> omega
        intro v' w3 hown3 hgr3 _
        have hb3 : Below w.heap.size wr w3 := ((Below.refl _ _).alloc hbx.size _).grown hgr3 (by have := hbx.size; simp <;> omega) (fun k hk => (hown.lt k hk).1)
        have H3 := Lib.hid (And.intro hown3 (hbx.trans hb3))
        clear hgr3 hown hown3 hb3
        go_wp2_with fail
        go_roundg f
        case measure => omega
        case rel =>
         obtain ⟨k1, k2, k3, k4, k5⟩ := HV.out
         refine ⟨i + 1, 0, lo ++ [d], rfl, by omega, rfl, by omega, by rw [List.length_append, k3]; rfl, ?_, k2, ?_, H3.out.2⟩
         · intro z hz
           rcases List.mem_append.1 hz with h | h
           · exact k4 z h
           · rw [List.mem_singleton.1 h]; exact k5
         · have e : u8s (lo ++ [d]) = V ++ [.int .u8 (d : Int)] := by rw [← k1]; simp [u8s]
           rw [e]
           exact H3.out.1
    · have d1 : decide ((i : Int) < (n2 : Int)) = false := decide_eq_false (by omega)
      have hyy : lb[i]? = some 0 ∨ (lb.length ≤ i ∧ 0 = 0) := .inr ⟨by have := HA.out.2.1; omega, rfl⟩
      by_cases hneg : x < bo
      · obtain ⟨d, hd⟩ : ∃ d, x + 10 - bo = d := ⟨_, rfl⟩
        have g5 : decide ((x : Int) - (bo : Int) < 0) = true := decide_eq_true (by omega)
        have g6 : IntKind.i64.wrap ((x : Int) - (bo : Int) + 10) = (d : Int) := by have := IntWalk.i64_in ((x : Int) - (bo : Int) + 10) (by omega); rw [this]; omega
        have g7 : IntKind.u8.wrap (d : Int) = (d : Int) := by rw [IntKind.wrap_u8]; omega
        have hnew := dv_minus (c' := 1) (d := d) hx hyy hlo hdv (by omega)
        have hd9 : d ≤ 9 := by omega
        obtain ⟨V, hV⟩ : ∃ V, u8s lo = V := ⟨_, rfl⟩
        rw [hV] at hown
        have HV := Lib.hid (And.intro hV (And.intro hnew (And.intro hlo (And.intro hlo9 hd9))))
        have hii : i + f + 1 = n := by omega
        clear hV hnew hlo hlo9 hd9 hdv hyy hneg hx hu hd hif
        go_wp2_with (at_builtin; refine wpList_append_own _ rfl _ _ 31 rfl w.heap.size 5 i0 (.int .u8 0) 1 1 Tryz.underlying31 hi hz0 hz1 hz2 rfl (by decide) _ _ _ rfl (hown.alloc _) ⟨wr.heap.size, 0, none⟩ 1 1 [.int .u8 (d : Int)] rfl rfl ?c1 ?c2 ?c3 ?c4 ?c5 ?_)
        case c1 =>
         intro j u' hj
         match j, hj with
         | 0, hj => simp at hj; subst hj; simp [Addr.add]
        case c2 => intro u' hu'; simp at hu'; subst hu'; rfl
        case c3 => unfold maxLen; omega
        case c4 => omega
        case c5 => have := hbx.size; simp <;> omega
        intro v' w3 hown3 hgr3 _
        have hb3 : Below w.heap.size wr w3 := ((Below.refl _ _).alloc hbx.size _).grown hgr3 (by have := hbx.size; simp <;> omega) (fun k hk => (hown.lt k hk).1)
        have H3 := Lib.hid (And.intro hown3 (hbx.trans hb3))
        clear hgr3 hown hown3 hb3
        go_wp2_with fail
        go_roundg f
        case measure => omega
        case rel =>
         obtain ⟨k1, k2, k3, k4, k5⟩ := HV.out
         refine ⟨i + 1, 1, lo ++ [d], rfl, by omega, rfl, by omega, by rw [List.length_append, k3]; rfl, ?_, k2, ?_, H3.out.2⟩
         · intro z hz
           rcases List.mem_append.1 hz with h | h
           · exact k4 z h
           · rw [List.mem_singleton.1 h]; exact k5
         · have e : u8s (lo ++ [d]) = V ++ [.int .u8 (d : Int)] := by rw [← k1]; simp [u8s]
           rw [e]
           exact H3.out.1
      · obtain ⟨d, hd⟩ : ∃ d, x - bo = d := ⟨_, rfl⟩
        replace g2 : IntKind.i64.wrap ((x : Int) - (bo : Int)) = (d : Int) := by rw [g2]; omega
        have g5 : decide ((d : Int) < 0) = false := decide_eq_false (by omega)
        have g7 : IntKind.u8.wrap (d : Int) = (d : Int) := by rw [IntKind.wrap_u8]; omega
        have hnew := dv_minus (c' := 0) (d := d) hx hyy hlo hdv (by omega)
        have hd9 : d ≤ 9 := by omega
        obtain ⟨V, hV⟩ : ∃ V, u8s lo = V := ⟨_, rfl⟩
        rw [hV] at hown
        have HV := Lib.hid (And.intro hV (And.intro hnew (And.intro hlo (And.intro hlo9 hd9))))
        have hii : i + f + 1 = n := by omega
        clear hV hnew hlo hlo9 hd9 hdv hyy hneg hx hu hd hif
        go_wp2_with (at_builtin; refine wpList_append_own _ rfl _ _ 31 rfl w.heap.size 5 i0 (.int .u8 0) 1 1 Tryz.underlying31 hi hz0 hz1 hz2 rfl (by decide) _ _ _ rfl (hown.alloc _) ⟨wr.heap.size, 0, none⟩ 1 1 [.int .u8 (d : Int)] rfl rfl ?c1 ?c2 ?c3 ?c4 ?c5 ?_)
        case c1 =>
         intro j u' hj
         match j, hj with
         | 0, hj => simp at hj; subst hj; simp [Addr.add]
        case c2 => intro u' hu'; simp at hu'; subst hu'; rfl
        case c3 => unfold maxLen; omega
        case c4 => omega
        case c5 => have := hbx.size; simp <;> omega
        intro v' w3 hown3 hgr3 _
        have hb3 : Below w.heap.size wr w3 := ((Below.refl _ _).alloc hbx.size _).grown hgr3 (by have := hbx.size; simp <;> omega) (fun k hk => (hown.lt k hk).1)
        have H3 := Lib.hid (And.intro hown3 (hbx.trans hb3))
        clear hgr3 hown hown3 hb3
        go_wp2_with fail
        go_roundg f
        case measure => omega
        case rel =>
         obtain ⟨k1, k2, k3, k4, k5⟩ := HV.out
         refine ⟨i + 1, 0, lo ++ [d], rfl, by omega, rfl, by omega, by rw [List.length_append, k3]; rfl, ?_, k2, ?_, H3.out.2⟩
         · intro z hz
           rcases List.mem_append.1 hz with h | h
           · exact k4 z h
           · rw [List.mem_singleton.1 h]; exact k5
         · have e : u8s (lo ++ [d]) = V ++ [.int .u8 (d : Int)] := by rw [← k1]; simp [u8s]
           rw [e]
           exact H3.out.1
theorem signed_pos (A : Option Addr) (n c : Nat) (l : List Nat) (w : World) (hr : Reads w w.heap.size A n (u8s l)) (hn : n ≤ c) (hc : n ≤ 1073741824) :
 Calls Tryz.prog 97 #[.slice A n c, .bool false] w fun x w' => (∃ m, Trimmed l n m ∧ x = .returned (.agg #[.bool false, .slice A m c])) ∧ Below w.heap.size w w' := by
 have TR := fun W hW => trim85_any A n c l W hW hn hc
 obtain ⟨w2, hw2⟩ : ∃ w2 : World, w.alloc (.cells #[.bool false, .slice none 0 0] 33) = w2 := ⟨_, rfl⟩
 obtain ⟨X, hX⟩ : ∃ X, w.heap.size = X := ⟨_, rfl⟩
 have hXc := heap_alloc_new w (.cells #[.bool false, .slice none 0 0] 33)
 have hb2 : Below w.heap.size w w2 := by rw [← hw2]; exact (Below.refl _ _).alloc (Nat.le_refl _) _
 rw [hw2, hX] at hXc
 have hr2 := hr.on hb2
 rw [hX] at hb2
 have HW2 := Lib.hid hw2
 have HX := Lib.hid hX
 have TR := Lib.hid (TR w2 hr2)
 have x0 := at_block hXc 0 _ rfl
 have x1 := at_block hXc 1 _ rfl
 have f0 := free_block hXc 0
 have f1 := free_block hXc 1
 clear hw2 hX hXc hr hr2
 go_enter Tryz.func97, Tryz.ntmps97
 go_upto_region 1 with fail
 rw [HW2.out, HX.out]
 go_wp2_with fail
 refine (TR.out).mono ?_
 rintro x w3 ⟨⟨m, hm, rfl⟩, rfl⟩
 have HM := Lib.hid hm
 clear hm
 go_wp2_with fail
 refine bodyPost_ret (v := .agg #[.bool false, .slice A m c]) (by simp [results, Tryz.results97, go_sem, x0, x1]) rfl ?_
 refine ⟨⟨m, HM.out, rfl⟩, ?_⟩
 rw [HX.out]
 exact (hb2.setCell (p := ⟨X, 0, none⟩) (Nat.le_refl _) _).setCell (p := ⟨X, 1, none⟩) (Nat.le_refl _) _
end Go.Proofs.YtjapgpmoojfhnaaGreatDoor
