/- The reference's Valid and number, walked. The reference's number, walked. The reference's Of, walked case by case. The reference's Of at every text: canonical or not. -/
import Derived.Test.YtjapgpmoojfhnaaGreatDoorB18
set_option maxHeartbeats 16000000
set_option maxRecDepth 100000
set_option linter.unusedSimpArgs false
set_option linter.unusedVariables false
namespace Go.Proofs.YtjapgpmoojfhnaaGreatDoor
open Go.RowKit Go.Lib
theorem byte_at {s : ByteArray} {k : Nat} (h : k < s.size) {d : UInt8} (hd : s[k]'h = d) : s.data.toList[k]? = some d := by
 rw [← hd]
 simp [h]
 rfl
theorem byte_eq {d c : UInt8} (h : ¬ d = c) : ((d.toNat : Int) == (c.toNat : Int)) = false := by
 simp only [beq_eq_false_iff_ne, ne_eq]
 intro h'
 exact h (UInt8.toNat_inj.1 (by omega))
theorem at1_of {s : ByteArray} (h : 0 < s.size) {d : UInt8} (hd : s[0]'h = d) : Fl.at1 s.data.toList = if d = 45 then 1 else 0 := by
 unfold Fl.at1
 rw [List.head?_eq_getElem?, byte_at h hd]
 by_cases hc : d = 45
 · rw [if_pos hc, if_pos (by rw [hc])]
 · rw [if_neg hc, if_neg (by simpa using hc)]
def SeenD (l : List UInt8) (a k : Nat) : Prop := ∀ j b, a ≤ j → j < k → l[j]? = some b → Fl.isD b = true
theorem seen_all {l : List UInt8} {a : Nat} (h : SeenD l a l.length) : (l.drop a).all Fl.isD = true := by
 rw [List.all_eq_true]
 intro b hb
 obtain ⟨j, hj, he⟩ := List.mem_iff_getElem.1 hb
 rw [List.length_drop] at hj
 refine h (a + j) b (by omega) (by omega) ?_
 rw [← List.getElem?_drop, List.getElem?_eq_getElem (by rw [List.length_drop]; exact hj), he]
theorem seen_not {l : List UInt8} {a k : Nat} {b : UInt8} (hk : a ≤ k) (hb : l[k]? = some b) (hd : Fl.isD b = false) : (l.drop a).all Fl.isD = false := by
 rw [List.all_eq_false]
 refine ⟨b, ?_, by simp [hd]⟩
 have : (l.drop a)[k - a]? = some b := by rw [List.getElem?_drop, Nat.add_sub_cancel' hk]; exact hb
 exact List.mem_of_getElem? this
theorem refvalid_w (s : ByteArray) (hs : s.size ≤ 1000) (h4 : s.size ≤ Fl.at1 s.data.toList + 400) (w : World) : Calls Tryz.prog 86 #[.string s] w fun x w' => x = .returned (.bool (Fl.vB s.data.toList)) ∧ w' = w := by
 obtain ⟨V, hV⟩ : ∃ V, Fl.vB s.data.toList = V := ⟨_, rfl⟩
 obtain ⟨a, ha⟩ : ∃ a, Fl.at1 s.data.toList = a := ⟨_, rfl⟩
 have hsz : s.data.toList.length = s.size := (ba_size s).symm
 have haz := Fl.at1_le s.data.toList
 rw [ha, hsz] at haz
 rw [ha] at h4
 rw [hV]
 have hVd : V = (!(s.size == a) && !((s.data.toList[a]? == some 48) && decide (1 < s.size)) && (s.data.toList.drop a).all Fl.isD) := by rw [← hV, Fl.vB, ha, hsz]
 have ha2 : a = 0 ∨ a = 1 := by rw [← ha]; unfold Fl.at1; split <;> omega
 have HA := Lib.hid ha
 have HV := Lib.hid hVd
 have HZ := Lib.hid hsz
 clear hV ha hVd hsz
 by_cases h0 : s.size = 0
 · have hin : decide (0 < s.size) = false := decide_eq_false (by omega)
   have hin2 : decide ((0 : Int) < (s.size : Int)) = false := decide_eq_false (by omega)
   have hzz : ((0 : Int) == (s.size : Int)) = true := by rw [beq_iff_eq]; omega
   have E := Lib.hid (show V = false by rw [HV.out, h0, show a = 0 by omega]; rfl)
   clear haz ha2 hs
   go_enter Tryz.func86, Tryz.ntmps86
   go_wp2_with fail
   go_ret
   exact ⟨by rw [E.out]; rfl, rfl⟩
 have hlt0 : 0 < s.size := by omega
 have hi00 : (0 : Int) < s.size := by omega
 have hin : decide (0 < s.size) = true := decide_eq_true (by omega)
 obtain ⟨d0, hd0⟩ : ∃ d : UInt8, s[0]'hlt0 = d := ⟨_, rfl⟩
 have hat := at1_of hlt0 hd0
 rw [HA.out] at hat
 obtain ⟨b45, hb45⟩ : ∃ b, ((d0.toNat : Int) == 45) = b := ⟨_, rfl⟩
 have HAT := Lib.hid (show (b45 = true → a = 1) ∧ (b45 = false → a = 0) by
  rw [← hb45]
  by_cases hc : d0 = 45
  · rw [if_pos hc] at hat
    exact ⟨fun _ => hat, fun h => (by rw [hc] at h; cases h)⟩
  · rw [if_neg hc] at hat
    have e45 : ((d0.toNat : Int) == 45) = false := byte_eq (c := 45) hc
    exact ⟨fun h => (by rw [e45] at h; cases h), fun _ => hat⟩)
 clear hat h0
 go_enter Tryz.func86, Tryz.ntmps86
 go_upto_if 12 with fail
 go_cut [3] (fun t wx => t = .int .i64 (a : Int) ∧ wx = w)
 case first =>
  cases b45 with
  | true =>
    have E := Lib.hid (HAT.out.1 rfl)
    clear haz ha2 hs
    go_wp2_with fail
    go_meet
    exact ⟨by rw [E.out]; rfl, rfl⟩
  | false =>
    have E := Lib.hid (HAT.out.2 rfl)
    clear haz ha2 hs
    go_wp2_with fail
    go_meet
    exact ⟨by rw [E.out]; rfl, rfl⟩
 case rest =>
  obtain ⟨rfl, hw⟩ := hcut
  subst hw
  by_cases h1 : s.size = a
  · have c1 : ((a : Int) == (s.size : Int)) = true := by rw [beq_iff_eq]; omega
    have E := Lib.hid (show V = false by rw [HV.out, h1]; simp)
    clear h1 haz ha2 hs
    go_wp2_with fail
    go_ret
    exact ⟨by rw [E.out]; rfl, rfl⟩
  · have c1 : ((a : Int) == (s.size : Int)) = false := by rw [beq_eq_false_iff_ne]; omega
    have hlt : a < s.size := by omega
    have hi0 : (0 : Int) ≤ a := by omega
    have hin : (a : Int) < s.size := by omega
    have c2 : IntKind.i64.wrap ((s.size : Int) - (a : Int)) = ((s.size - a : Nat) : Int) := by rw [show (s.size : Int) - (a : Int) = ((s.size - a : Nat) : Int) by omega]; exact IntWalk.i64_in _ (by omega)
    obtain ⟨rr, hrr⟩ : ∃ rr, s.size - a = rr := ⟨_, rfl⟩
    rw [hrr] at c2
    have c3 : decide ((400 : Int) < (rr : Int)) = false := decide_eq_false (by omega)
    have c3b : decide (400 < rr) = false := decide_eq_false (by omega)
    obtain ⟨d, hd⟩ : ∃ d : UInt8, s[a]'hlt = d := ⟨_, rfl⟩
    have hda := byte_at hlt hd
    clear hrr
    by_cases hz : d = 48 ∧ 1 < s.size
    · have c4 : ((d.toNat : Int) == 48) = true := by rw [hz.1]; rfl
      have c5 : decide (1 < s.size) = true := decide_eq_true hz.2
      have c5b : decide ((1 : Int) < (s.size : Int)) = true := decide_eq_true (by omega)
      have E := Lib.hid (show V = false by rw [HV.out, hda, hz.1, c5]; simp)
      clear hz hda h1 haz ha2 hs
      go_wp2_with fail
      go_ret
      exact ⟨by rw [E.out]; rfl, rfl⟩
    · have HVZ := Lib.hid (show V = (s.data.toList.drop a).all Fl.isD by
       rw [HV.out, hda, show (s.size == a) = false by rw [beq_eq_false_iff_ne]; exact h1]
       by_cases h48 : d = 48
       · rw [show decide (1 < s.size) = false by exact decide_eq_false (fun h => hz ⟨h48, h⟩)]; simp
       · rw [show ((some d : Option UInt8) == some 48) = false by simpa using h48]; simp)
      have hloop : ∀ (b48 b1 : Bool), ((d.toNat : Int) == 48) = b48 → decide (1 < s.size) = b1 → (b48 && b1) = false := fun b48 b1 e1 e2 => by
       cases b48
       · rfl
       · cases b1
         · rfl
         · exfalso
           apply hz
           refine ⟨UInt8.toNat_inj.1 ?_, of_decide_eq_true e2⟩
           have := eq_of_beq e1
           show d.toNat = 48
           omega
      obtain ⟨b48, hb48⟩ : ∃ b, ((d.toNat : Int) == 48) = b := ⟨_, rfl⟩
      obtain ⟨b1, hb1⟩ : ∃ b, decide (1 < s.size) = b := ⟨_, rfl⟩
      have hbb := hloop b48 b1 hb48 hb1
      have hb1b : decide ((1 : Int) < (s.size : Int)) = b1 := by rw [← hb1]; exact decide_eq_decide.2 (by omega)
      clear hloop hz hda h1
      cases b48 with
      | false =>
        clear hbb
        go_wp2_with fail
        go_loopg [4] s.size (fun g t wx => ∃ k : Nat, t = .int .i64 (k : Int) ∧ wx = wc ∧ a ≤ k ∧ k ≤ s.size ∧ s.size ≤ k + g ∧ SeenD s.data.toList a k)
        case atStart => exact ⟨a, rfl, rfl, Nat.le_refl _, haz, by omega, fun j b h1 h2 => absurd h2 (by omega)⟩
        case round =>
         obtain ⟨k, rfl, hww, hak, hks, hg, hseen⟩ := hrel
         subst hww
         by_cases hkl : k < s.size
         · obtain ⟨g, rfl⟩ : ∃ g, gk = g + 1 := ⟨gk - 1, by omega⟩
           obtain ⟨e, he⟩ : ∃ e : UInt8, s[k]'hkl = e := ⟨_, rfl⟩
           have hek := byte_at hkl he
           have hk0 : (0 : Int) ≤ (k : Int) := by omega
           have hki : (k : Int) < s.size := by omega
           have n1 : decide (k < s.size) = true := decide_eq_true hkl
           by_cases hlo : e.toNat < 48
           · have n2 : decide ((e.toNat : Int) < 48) = true := decide_eq_true (by omega)
             have n3 : decide (e.toNat < 48) = true := decide_eq_true hlo
             have E := Lib.hid (show V = false by rw [HVZ.out]; exact seen_not hak hek (by unfold Fl.isD; rw [decide_eq_false (by omega)]; rfl))
             clear hek hseen hlo hs
             go_wp2_with fail
             go_ret
             exact ⟨by rw [E.out]; rfl, rfl⟩
           · have n2 : decide ((e.toNat : Int) < 48) = false := decide_eq_false (by omega)
             have n3 : decide (e.toNat < 48) = false := decide_eq_false hlo
             by_cases hhi : 57 < e.toNat
             · have n4 : decide ((57 : Int) < (e.toNat : Int)) = true := decide_eq_true (by omega)
               have n5 : decide (57 < e.toNat) = true := decide_eq_true hhi
               have E := Lib.hid (show V = false by rw [HVZ.out]; exact seen_not hak hek (by unfold Fl.isD; rw [decide_eq_false (show ¬ e.toNat ≤ 57 by omega)]; simp))
               clear hek hseen hlo hhi hs
               go_wp2_with fail
               go_ret
               exact ⟨by rw [E.out]; rfl, rfl⟩
             · have n4 : decide ((57 : Int) < (e.toNat : Int)) = false := decide_eq_false (by omega)
               have n5 : decide (57 < e.toNat) = false := decide_eq_false hhi
               have HS := Lib.hid (show SeenD s.data.toList a (k + 1) from fun j b h1 h2 h3 => by
                by_cases hj : j = k
                · rw [hj, hek] at h3
                  cases h3
                  unfold Fl.isD
                  rw [decide_eq_true (by omega), decide_eq_true (by omega)]
                  rfl
                · exact hseen j b h1 (by omega) h3)
               clear hek hseen hlo hhi
               go_wp2_with fail
               go_roundg g
               case measure => omega
               case rel => exact ⟨k + 1, by go_num, rfl, Nat.le_succ_of_le hak, hkl, Nat.le_trans hg (Nat.le_of_eq (by rw [Nat.add_assoc, Nat.add_comm 1 g])), HS.out⟩
         · obtain rfl : k = s.size := by omega
           have n1 : decide (s.size < s.size) = false := decide_eq_false hkl
           have E := Lib.hid (show V = true by rw [HVZ.out]; rw [← HZ.out] at hseen; exact seen_all hseen)
           clear hseen hs
           go_wp2_with fail
           go_ret
           exact ⟨by rw [E.out]; rfl, rfl⟩
      | true =>
        have hb1f : b1 = false := by simpa using hbb
        subst hb1f
        clear hbb
        go_wp2_with fail
        go_loopg [4] s.size (fun g t wx => ∃ k : Nat, t = .int .i64 (k : Int) ∧ wx = wc ∧ a ≤ k ∧ k ≤ s.size ∧ s.size ≤ k + g ∧ SeenD s.data.toList a k)
        case atStart => exact ⟨a, rfl, rfl, Nat.le_refl _, haz, by omega, fun j b h1 h2 => absurd h2 (by omega)⟩
        case round =>
         obtain ⟨k, rfl, hww, hak, hks, hg, hseen⟩ := hrel
         subst hww
         by_cases hkl : k < s.size
         · obtain ⟨g, rfl⟩ : ∃ g, gk = g + 1 := ⟨gk - 1, by omega⟩
           obtain ⟨e, he⟩ : ∃ e : UInt8, s[k]'hkl = e := ⟨_, rfl⟩
           have hek := byte_at hkl he
           have hk0 : (0 : Int) ≤ (k : Int) := by omega
           have hki : (k : Int) < s.size := by omega
           have n1 : decide (k < s.size) = true := decide_eq_true hkl
           by_cases hlo : e.toNat < 48
           · have n2 : decide ((e.toNat : Int) < 48) = true := decide_eq_true (by omega)
             have n3 : decide (e.toNat < 48) = true := decide_eq_true hlo
             have E := Lib.hid (show V = false by rw [HVZ.out]; exact seen_not hak hek (by unfold Fl.isD; rw [decide_eq_false (by omega)]; rfl))
             clear hek hseen hlo hs
             go_wp2_with fail
             go_ret
             exact ⟨by rw [E.out]; rfl, rfl⟩
           · have n2 : decide ((e.toNat : Int) < 48) = false := decide_eq_false (by omega)
             have n3 : decide (e.toNat < 48) = false := decide_eq_false hlo
             by_cases hhi : 57 < e.toNat
             · have n4 : decide ((57 : Int) < (e.toNat : Int)) = true := decide_eq_true (by omega)
               have n5 : decide (57 < e.toNat) = true := decide_eq_true hhi
               have E := Lib.hid (show V = false by rw [HVZ.out]; exact seen_not hak hek (by unfold Fl.isD; rw [decide_eq_false (show ¬ e.toNat ≤ 57 by omega)]; simp))
               clear hek hseen hlo hhi hs
               go_wp2_with fail
               go_ret
               exact ⟨by rw [E.out]; rfl, rfl⟩
             · have n4 : decide ((57 : Int) < (e.toNat : Int)) = false := decide_eq_false (by omega)
               have n5 : decide (57 < e.toNat) = false := decide_eq_false hhi
               have HS := Lib.hid (show SeenD s.data.toList a (k + 1) from fun j b h1 h2 h3 => by
                by_cases hj : j = k
                · rw [hj, hek] at h3
                  cases h3
                  unfold Fl.isD
                  rw [decide_eq_true (by omega), decide_eq_true (by omega)]
                  rfl
                · exact hseen j b h1 (by omega) h3)
               clear hek hseen hlo hhi
               go_wp2_with fail
               go_roundg g
               case measure => omega
               case rel => exact ⟨k + 1, by go_num, rfl, Nat.le_succ_of_le hak, hkl, Nat.le_trans hg (Nat.le_of_eq (by rw [Nat.add_assoc, Nat.add_comm 1 g])), HS.out⟩
         · obtain rfl : k = s.size := by omega
           have n1 : decide (s.size < s.size) = false := decide_eq_false hkl
           have E := Lib.hid (show V = true by rw [HVZ.out]; rw [← HZ.out] at hseen; exact seen_all hseen)
           clear hseen hs
           go_wp2_with fail
           go_ret
           exact ⟨by rw [E.out]; rfl, rfl⟩
theorem refvalid_any (s : ByteArray) (hs : s.size ≤ 300) (w : World) : Calls Tryz.prog 86 #[.string s] w fun x w' => x = .returned (.bool (Fl.vB s.data.toList)) ∧ w' = w := refvalid_w s (by omega) (by omega) w
namespace Fl
theorem numV_lt : ∀ (n : Nat) (t : List UInt8), t.length = n → (∀ b ∈ t, b.toNat ≤ 57) → numV t < 10 ^ n
 | 0, t, hl, _ => by rw [List.eq_nil_of_length_eq_zero hl]; decide
 | n + 1, t, hl, hd => by
   obtain ⟨t', b, rfl⟩ : ∃ t' b, t = t' ++ [b] := ⟨t.dropLast, t.getLast (by intro h; rw [h] at hl; simp at hl), (List.dropLast_concat_getLast _).symm⟩
   have ih := numV_lt n t' (by simpa using hl) (fun x hx => hd x (by simp [hx]))
   have := hd b (by simp)
   rw [numV_snoc, Nat.pow_succ]
   omega
def seenV (l : List UInt8) (k : Nat) : Nat := numV ((l.take k).drop (at1 l))
theorem seenV_skip {l : List UInt8} {k : Nat} (h : k + 1 ≤ at1 l) : seenV l (k + 1) = seenV l k := by
 unfold seenV
 rw [List.drop_eq_nil_of_le (by rw [List.length_take]; omega), List.drop_eq_nil_of_le (by rw [List.length_take]; omega)]
theorem seenV_next {l : List UInt8} {k : Nat} {d : UInt8} (h : at1 l ≤ k) (hd : l[k]? = some d) : seenV l (k + 1) = 10 * seenV l k + (d.toNat - 48) := by
 have hk : k < l.length := by
  rcases Nat.lt_or_ge k l.length with h' | h'
  · exact h'
  · rw [List.getElem?_eq_none h'] at hd; cases hd
 unfold seenV
 rw [List.take_add_one, hd, List.drop_append_of_le_length (by rw [List.length_take]; omega)]
 exact numV_snoc _ _
theorem seenV_lt {l : List UInt8} (h : vB l = true) (k : Nat) (hk : k ≤ 18) : seenV l k < 1000000000000000000 := by
 obtain ⟨_, h2, _⟩ := vB_digits h
 unfold seenV
 have h3 : ∀ b ∈ (l.take k).drop (at1 l), b.toNat ≤ 57 := fun b hb => by
  rw [List.drop_take] at hb
  exact (h2 b (List.mem_of_mem_take hb)).2
 refine Nat.lt_of_lt_of_le (numV_lt _ _ rfl h3) (Nat.le_trans (Nat.pow_le_pow_right (by decide) (?_ : _ ≤ 18)) (by decide))
 rw [List.length_drop, List.length_take]
 omega
theorem at_digit {l : List UInt8} (h : vB l = true) {k : Nat} {d : UInt8} (hk : at1 l ≤ k) (hd : l[k]? = some d) : 48 ≤ d.toNat ∧ d.toNat ≤ 57 := by
 obtain ⟨_, h2, _⟩ := vB_digits h
 refine h2 d ?_
 have : (l.drop (at1 l))[k - at1 l]? = some d := by rw [List.getElem?_drop, Nat.add_sub_cancel' hk]; exact hd
 exact List.mem_of_getElem? this
theorem numI_seen {l : List UInt8} : numI l = if at1 l = 1 then -(seenV l l.length : Int) else (seenV l l.length : Int) := by
 unfold numI seenV
 rw [List.take_length]
 by_cases h : at1 l = 1
 · rw [if_pos h, if_pos h, h]
 · have h0 : at1 l = 0 := by
    unfold at1 at h ⊢
    split
    · rename_i hc
      rw [if_pos hc] at h
      exact absurd rfl h
    · rfl
   rw [if_neg h, if_neg h, h0, List.drop_zero]
end Fl
theorem refnumber_bad (s : ByteArray) (hs : s.size ≤ 300) (h : Fl.vB s.data.toList = false ∨ 18 < s.size) (w : World) : Calls Tryz.prog 71 #[.string s] w fun x w' => x = .returned (.tuple #[.int .i64 0, .bool false]) ∧ w' = w := by
 have RV := fun W => refvalid_any s hs W
 obtain ⟨V, hV⟩ : ∃ V, Fl.vB s.data.toList = V := ⟨_, rfl⟩
 rw [hV] at RV h
 have RV := Lib.hid RV
 clear hV
 cases V with
 | false =>
   clear h hs
   go_enter Tryz.func71, Tryz.ntmps71
   go_wp2_with fail
   refine (RV.out _).mono ?_
   rintro x w1 ⟨rfl, rfl⟩
   go_wp2_with fail
   go_ret2
   exact ⟨rfl, rfl⟩
 | true =>
   have h18 : 18 < s.size := h.resolve_left (by simp)
   have c1 : decide (18 < s.size) = true := decide_eq_true h18
   have c2 : decide ((18 : Int) < (s.size : Int)) = true := decide_eq_true (by omega)
   clear h hs h18
   go_enter Tryz.func71, Tryz.ntmps71
   go_wp2_with fail
   refine (RV.out _).mono ?_
   rintro x w1 ⟨rfl, rfl⟩
   go_wp2_with fail
   go_ret2
   exact ⟨rfl, rfl⟩
theorem refnumber_good (s : ByteArray) (h18 : s.size ≤ 18) (hv : Fl.vB s.data.toList = true) (w : World) : Calls Tryz.prog 71 #[.string s] w fun x w' => x = .returned (.tuple #[.int .i64 (Fl.numI s.data.toList), .bool true]) ∧ w' = w := by
 have RV := fun W => refvalid_any s (by omega) W
 rw [hv] at RV
 have RV := Lib.hid RV
 have hsz : s.data.toList.length = s.size := (ba_size s).symm
 have hni := Fl.numI_seen (l := s.data.toList)
 rw [hsz] at hni
 obtain ⟨I, hI⟩ : ∃ I, Fl.numI s.data.toList = I := ⟨_, rfl⟩
 rw [hI] at hni ⊢
 have h0 : 0 < s.size := by
  obtain ⟨h1, _, _⟩ := Fl.vB_digits hv
  rw [List.length_drop, hsz] at h1
  omega
 have c1 : decide (18 < s.size) = false := decide_eq_false (by omega)
 have c2 : decide ((18 : Int) < (s.size : Int)) = false := decide_eq_false (by omega)
 have HV := Lib.hid hv
 have HN := Lib.hid hni
 clear hv hsz hni hI
 go_enter Tryz.func71, Tryz.ntmps71
 go_wp2_with fail
 refine (RV.out _).mono ?_
 rintro x w1 ⟨rfl, rfl⟩
 go_wp2_with fail
 go_loopg [4, 5] s.size (fun g t4 t5 wx => ∃ k : Nat, t5 = .int .i64 (k : Int) ∧ t4 = .int .i64 (Fl.seenV s.data.toList k : Int) ∧ wx = w1 ∧ k ≤ s.size ∧ s.size ≤ k + g)
 case atStart => exact ⟨0, rfl, by simp [Fl.seenV, Fl.numV], rfl, by omega, by omega⟩
 case round =>
  obtain ⟨k, rfl, rfl, hww, hks, hg⟩ := hrel
  subst hww
  by_cases hkl : k < s.size
  · obtain ⟨g, rfl⟩ : ∃ g, gk = g + 1 := ⟨gk - 1, by omega⟩
    obtain ⟨e, he⟩ : ∃ e : UInt8, s[k]'hkl = e := ⟨_, rfl⟩
    have hek := byte_at hkl he
    have hk0 : (0 : Int) ≤ (k : Int) := by omega
    have hki : (k : Int) < s.size := by omega
    have n1 : decide (k < s.size) = true := decide_eq_true hkl
    by_cases hak : Fl.at1 s.data.toList ≤ k
    · obtain ⟨d1, d2⟩ := Fl.at_digit HV.out hak hek
      have hnext := Fl.seenV_next hak hek
      have hlt := Fl.seenV_lt HV.out k (by omega)
      have hlt2 := Fl.seenV_lt HV.out (k + 1) (by omega)
      obtain ⟨N, hN⟩ : ∃ N, Fl.seenV s.data.toList k = N := ⟨_, rfl⟩
      obtain ⟨N2, hN2⟩ : ∃ N, Fl.seenV s.data.toList (k + 1) = N := ⟨_, rfl⟩
      rw [hN] at hnext hlt
      rw [hN2] at hnext hlt2
      obtain ⟨c, hc⟩ : ∃ c, e.toNat = c := ⟨_, rfl⟩
      obtain ⟨c', hc'⟩ : ∃ c', c - 48 = c' := ⟨_, rfl⟩
      obtain ⟨T, hT⟩ : ∃ T, 10 * N = T := ⟨_, rfl⟩
      rw [hc] at d1 d2 hnext
      have n2 : ((c : Int) == 45) = false := by rw [beq_eq_false_iff_ne]; omega
      have n2b : ((c : Int) != 45) = true := by rw [bne_iff_ne]; omega
      have n3 : IntKind.u8.wrap ((c : Int) - 48) = (c' : Int) := by rw [IntKind.wrap_u8]; omega
      have n4 : IntKind.i64.wrap (c' : Int) = (c' : Int) := IntWalk.i64_in _ (by omega)
      have n5 : IntKind.i64.wrap (10 * (N : Int)) = (T : Int) := by rw [show 10 * (N : Int) = (T : Int) by omega]; exact IntWalk.i64_in _ (by omega)
      have n6 : IntKind.i64.wrap ((T : Int) + (c' : Int)) = (N2 : Int) := by rw [show (T : Int) + (c' : Int) = (N2 : Int) by omega]; exact IntWalk.i64_in _ (by omega)
      have HN2 := Lib.hid hN2
      rw [hN]
      clear hek hnext hlt hlt2 hN hN2 hc' hT d1 d2 hak
      go_wp2_with fail
      go_roundg g
      case measure => omega
      case rel => exact ⟨k + 1, by go_num, by rw [HN2.out], rfl, hkl, Nat.le_trans hg (Nat.le_of_eq (by rw [Nat.add_assoc, Nat.add_comm 1 g]))⟩
    · have ha1 : Fl.at1 s.data.toList = 1 ∧ k = 0 := by
       have : Fl.at1 s.data.toList ≤ 1 := by unfold Fl.at1; split <;> omega
       omega
      have he45 : e = 45 := by
       obtain ⟨rfl⟩ := ha1.2
       have hat := at1_of h0 he
       rw [ha1.1] at hat
       by_cases h : e = 45
       · exact h
       · rw [if_neg h] at hat; cases hat
      subst he45
      have HS := Lib.hid (Fl.seenV_skip (l := s.data.toList) (k := k) (by omega))
      obtain ⟨N, hN⟩ : ∃ N, Fl.seenV s.data.toList k = N := ⟨_, rfl⟩
      have HNN := Lib.hid hN
      rw [hN]
      have n2 : (((45 : UInt8).toNat : Int) == 45) = true := rfl
      clear hek hN hak ha1
      go_wp2_with fail
      go_roundg g
      case measure => omega
      case rel => exact ⟨k + 1, by go_num, by rw [HS.out, HNN.out], rfl, hkl, Nat.le_trans hg (Nat.le_of_eq (by rw [Nat.add_assoc, Nat.add_comm 1 g]))⟩
  · obtain rfl : k = s.size := by omega
    have n1 : decide (s.size < s.size) = false := decide_eq_false hkl
    obtain ⟨d0, hd0⟩ : ∃ d : UInt8, s[0]'h0 = d := ⟨_, rfl⟩
    have hat := at1_of h0 hd0
    have hlt := Fl.seenV_lt HV.out s.size (by omega)
    have hni := HN.out
    rw [hat] at hni
    obtain ⟨N, hN⟩ : ∃ N, Fl.seenV s.data.toList s.size = N := ⟨_, rfl⟩
    rw [hN] at hni hlt ⊢
    by_cases hc : d0 = 45
    · rw [if_pos hc, if_pos rfl] at hni
      have n2 : ((d0.toNat : Int) == 45) = true := by rw [hc]; rfl
      have n3 : IntKind.i64.wrap (-(N : Int)) = -(N : Int) := IntWalk.i64_in _ (by omega)
      have E := Lib.hid hni
      clear hat hlt hni hN hc
      go_wp2_with fail
      go_ret2
      exact ⟨by rw [E.out]; rfl, rfl⟩
    · rw [if_neg hc, if_neg (by decide)] at hni
      have n2 : ((d0.toNat : Int) == 45) = false := byte_eq (c := 45) hc
      have E := Lib.hid hni
      clear hat hlt hni hN hc
      go_wp2_with fail
      go_ret2
      exact ⟨by rw [E.out]; rfl, rfl⟩
theorem bad_or {b : Bool} {n : Nat} (h : ¬ (b = true ∧ n ≤ 18)) : b = false ∨ 18 < n := by
 cases b with
 | false => exact .inl rfl
 | true => exact .inr (Nat.lt_of_not_le fun h3 => h ⟨rfl, h3⟩)
theorem ba_ext {a b : ByteArray} (h : a.data.toList = b.data.toList) : a = b := by
 rw [← ba_of a, ← ba_of b, h]
end Go.Proofs.YtjapgpmoojfhnaaGreatDoor
