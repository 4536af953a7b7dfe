/- The reference's Valid and number, walked. -/
import Derived.Test.YtjapgpmoojfhnaaGreatDoorWalkZN
namespace Go.Proofs.YtjapgpmoojfhnaaGreatDoor
open Go.RowKit Go.Lib

theorem byte_at {s : ByteArray} {k : Nat} (h : k < s.size) {d : UInt8} (hd : s[k]'h = d) : s.data.toList[k]? = some d := by
  rw [← hd]
  simp [h]
  rfl
theorem byte_eq {d c : UInt8} (h : ¬ d = c) : ((d.toNat : Int) == (c.toNat : Int)) = false := by
  simp only [beq_eq_false_iff_ne, ne_eq]
  intro h'
  exact h (UInt8.toNat_inj.1 (by omega))
theorem at1_of {s : ByteArray} (h : 0 < s.size) {d : UInt8} (hd : s[0]'h = d) : Fl.at1 s.data.toList = if d = 45 then 1 else 0 := by
  unfold Fl.at1
  rw [List.head?_eq_getElem?, byte_at h hd]
  by_cases hc : d = 45
  · rw [if_pos hc, if_pos (by rw [hc])]
  · rw [if_neg hc, if_neg (by simpa using hc)]
/-- The digits that a loop has seen. -/
def SeenD (l : List UInt8) (a k : Nat) : Prop := ∀ j b, a ≤ j → j < k → l[j]? = some b → Fl.isD b = true
theorem seen_all {l : List UInt8} {a : Nat} (h : SeenD l a l.length) : (l.drop a).all Fl.isD = true := by
  rw [List.all_eq_true]
  intro b hb
  obtain ⟨j, hj, he⟩ := List.mem_iff_getElem.1 hb
  rw [List.length_drop] at hj
  refine h (a + j) b (by omega) (by omega) ?_
  rw [← List.getElem?_drop, List.getElem?_eq_getElem (by rw [List.length_drop]; exact hj), he]
theorem seen_not {l : List UInt8} {a k : Nat} {b : UInt8} (hk : a ≤ k) (hb : l[k]? = some b) (hd : Fl.isD b = false) : (l.drop a).all Fl.isD = false := by
  rw [List.all_eq_false]
  refine ⟨b, ?_, by simp [hd]⟩
  have : (l.drop a)[k - a]? = some b := by rw [List.getElem?_drop, Nat.add_sub_cancel' hk]; exact hb
  exact List.mem_of_getElem? this
set_option maxHeartbeats 2000000 in
set_option maxRecDepth 100000 in
theorem refvalid_any (s : ByteArray) (hs : s.size ≤ 300) (w : World) : Calls Tryz.prog 86 #[.string s] w fun x w' => x = .returned (.bool (Fl.vB s.data.toList)) ∧ w' = w := by
  obtain ⟨V, hV⟩ : ∃ V, Fl.vB s.data.toList = V := ⟨_, rfl⟩
  obtain ⟨a, ha⟩ : ∃ a, Fl.at1 s.data.toList = a := ⟨_, rfl⟩
  have hsz : s.data.toList.length = s.size := (ba_size s).symm
  have haz := Fl.at1_le s.data.toList
  rw [ha, hsz] at haz
  rw [hV]
  have hVd : V = (!(s.size == a) && !((s.data.toList[a]? == some 48) && decide (1 < s.size)) && (s.data.toList.drop a).all Fl.isD) := by rw [← hV, Fl.vB, ha, hsz]
  have ha2 : a = 0 ∨ a = 1 := by rw [← ha]; unfold Fl.at1; split <;> omega
  have HA := Lib.hid ha
  have HV := Lib.hid hVd
  have HZ := Lib.hid hsz
  clear hV ha hVd hsz
  by_cases h0 : s.size = 0
  · have hin : decide (0 < s.size) = false := decide_eq_false (by omega)
    have hin2 : decide ((0 : Int) < (s.size : Int)) = false := decide_eq_false (by omega)
    have hzz : ((0 : Int) == (s.size : Int)) = true := by rw [beq_iff_eq]; omega
    have E := Lib.hid (show V = false by rw [HV.out, h0, show a = 0 by omega]; rfl)
    clear haz ha2 hs
    go_enter Tryz.func86, Tryz.ntmps86
    go_wp2_with fail
    go_ret
    exact ⟨by rw [E.out]; rfl, rfl⟩
  have hlt0 : 0 < s.size := by omega
  have hi00 : (0 : Int) < s.size := by omega
  have hin : decide (0 < s.size) = true := decide_eq_true (by omega)
  obtain ⟨d0, hd0⟩ : ∃ d : UInt8, s[0]'hlt0 = d := ⟨_, rfl⟩
  have hat := at1_of hlt0 hd0
  rw [HA.out] at hat
  obtain ⟨b45, hb45⟩ : ∃ b, ((d0.toNat : Int) == 45) = b := ⟨_, rfl⟩
  have HAT := Lib.hid (show (b45 = true → a = 1) ∧ (b45 = false → a = 0) by
    rw [← hb45]
    by_cases hc : d0 = 45
    · rw [if_pos hc] at hat
      exact ⟨fun _ => hat, fun h => (by rw [hc] at h; cases h)⟩
    · rw [if_neg hc] at hat
      have e45 : ((d0.toNat : Int) == 45) = false := byte_eq (c := 45) hc
      exact ⟨fun h => (by rw [e45] at h; cases h), fun _ => hat⟩)
  clear hat h0
  go_enter Tryz.func86, Tryz.ntmps86
  go_upto_if 12 with fail
  go_cut [3] (fun t wx => t = .int .i64 (a : Int) ∧ wx = w)
  case first =>
    cases b45 with
    | true =>
      have E := Lib.hid (HAT.out.1 rfl)
      clear haz ha2 hs
      go_wp2_with fail
      go_meet
      exact ⟨by rw [E.out]; rfl, rfl⟩
    | false =>
      have E := Lib.hid (HAT.out.2 rfl)
      clear haz ha2 hs
      go_wp2_with fail
      go_meet
      exact ⟨by rw [E.out]; rfl, rfl⟩
  case rest =>
    obtain ⟨rfl, hw⟩ := hcut
    subst hw
    by_cases h1 : s.size = a
    · have c1 : ((a : Int) == (s.size : Int)) = true := by rw [beq_iff_eq]; omega
      have E := Lib.hid (show V = false by rw [HV.out, h1]; simp)
      clear h1 haz ha2 hs
      go_wp2_with fail
      go_ret
      exact ⟨by rw [E.out]; rfl, rfl⟩
    · have c1 : ((a : Int) == (s.size : Int)) = false := by rw [beq_eq_false_iff_ne]; omega
      have hlt : a < s.size := by omega
      have hi0 : (0 : Int) ≤ a := by omega
      have hin : (a : Int) < s.size := by omega
      have c2 : IntKind.i64.wrap ((s.size : Int) - (a : Int)) = ((s.size - a : Nat) : Int) := by rw [show (s.size : Int) - (a : Int) = ((s.size - a : Nat) : Int) by omega]; exact IntWalk.i64_in _ (by omega)
      obtain ⟨rr, hrr⟩ : ∃ rr, s.size - a = rr := ⟨_, rfl⟩
      rw [hrr] at c2
      have c3 : decide ((400 : Int) < (rr : Int)) = false := decide_eq_false (by omega)
      have c3b : decide (400 < rr) = false := decide_eq_false (by omega)
      obtain ⟨d, hd⟩ : ∃ d : UInt8, s[a]'hlt = d := ⟨_, rfl⟩
      have hda := byte_at hlt hd
      clear hrr
      by_cases hz : d = 48 ∧ 1 < s.size
      · have c4 : ((d.toNat : Int) == 48) = true := by rw [hz.1]; rfl
        have c5 : decide (1 < s.size) = true := decide_eq_true hz.2
        have c5b : decide ((1 : Int) < (s.size : Int)) = true := decide_eq_true (by omega)
        have E := Lib.hid (show V = false by rw [HV.out, hda, hz.1, c5]; simp)
        clear hz hda h1 haz ha2 hs
        go_wp2_with fail
        go_ret
        exact ⟨by rw [E.out]; rfl, rfl⟩
      · have HVZ := Lib.hid (show V = (s.data.toList.drop a).all Fl.isD by
          rw [HV.out, hda, show (s.size == a) = false by rw [beq_eq_false_iff_ne]; exact h1]
          by_cases h48 : d = 48
          · rw [show decide (1 < s.size) = false by exact decide_eq_false (fun h => hz ⟨h48, h⟩)]; simp
          · rw [show ((some d : Option UInt8) == some 48) = false by simpa using h48]; simp)
        have hloop : ∀ (b48 b1 : Bool), ((d.toNat : Int) == 48) = b48 → decide (1 < s.size) = b1 → (b48 && b1) = false := fun b48 b1 e1 e2 => by
          cases b48
          · rfl
          · cases b1
            · rfl
            · exfalso
              apply hz
              refine ⟨UInt8.toNat_inj.1 ?_, of_decide_eq_true e2⟩
              have := eq_of_beq e1
              show d.toNat = 48
              omega
        obtain ⟨b48, hb48⟩ : ∃ b, ((d.toNat : Int) == 48) = b := ⟨_, rfl⟩
        obtain ⟨b1, hb1⟩ : ∃ b, decide (1 < s.size) = b := ⟨_, rfl⟩
        have hbb := hloop b48 b1 hb48 hb1
        have hb1b : decide ((1 : Int) < (s.size : Int)) = b1 := by rw [← hb1]; exact decide_eq_decide.2 (by omega)
        clear hloop hz hda h1
        cases b48 with
        | false =>
          clear hbb
          go_wp2_with fail
          go_loopg [4] s.size (fun g t wx => ∃ k : Nat, t = .int .i64 (k : Int) ∧ wx = wc ∧ a ≤ k ∧ k ≤ s.size ∧ s.size ≤ k + g ∧ SeenD s.data.toList a k)
          case atStart => exact ⟨a, rfl, rfl, Nat.le_refl _, haz, by omega, fun j b h1 h2 => absurd h2 (by omega)⟩
          case round =>
            obtain ⟨k, rfl, hww, hak, hks, hg, hseen⟩ := hrel
            subst hww
            by_cases hkl : k < s.size
            · obtain ⟨g, rfl⟩ : ∃ g, gk = g + 1 := ⟨gk - 1, by omega⟩
              obtain ⟨e, he⟩ : ∃ e : UInt8, s[k]'hkl = e := ⟨_, rfl⟩
              have hek := byte_at hkl he
              have hk0 : (0 : Int) ≤ (k : Int) := by omega
              have hki : (k : Int) < s.size := by omega
              have n1 : decide (k < s.size) = true := decide_eq_true hkl
              by_cases hlo : e.toNat < 48
              · have n2 : decide ((e.toNat : Int) < 48) = true := decide_eq_true (by omega)
                have n3 : decide (e.toNat < 48) = true := decide_eq_true hlo
                have E := Lib.hid (show V = false by rw [HVZ.out]; exact seen_not hak hek (by unfold Fl.isD; rw [decide_eq_false (by omega)]; rfl))
                clear hek hseen hlo hs
                go_wp2_with fail
                go_ret
                exact ⟨by rw [E.out]; rfl, rfl⟩
              · have n2 : decide ((e.toNat : Int) < 48) = false := decide_eq_false (by omega)
                have n3 : decide (e.toNat < 48) = false := decide_eq_false hlo
                by_cases hhi : 57 < e.toNat
                · have n4 : decide ((57 : Int) < (e.toNat : Int)) = true := decide_eq_true (by omega)
                  have n5 : decide (57 < e.toNat) = true := decide_eq_true hhi
                  have E := Lib.hid (show V = false by rw [HVZ.out]; exact seen_not hak hek (by unfold Fl.isD; rw [decide_eq_false (show ¬ e.toNat ≤ 57 by omega)]; simp))
                  clear hek hseen hlo hhi hs
                  go_wp2_with fail
                  go_ret
                  exact ⟨by rw [E.out]; rfl, rfl⟩
                · have n4 : decide ((57 : Int) < (e.toNat : Int)) = false := decide_eq_false (by omega)
                  have n5 : decide (57 < e.toNat) = false := decide_eq_false hhi
                  have HS := Lib.hid (show SeenD s.data.toList a (k + 1) from fun j b h1 h2 h3 => by
                    by_cases hj : j = k
                    · rw [hj, hek] at h3
                      cases h3
                      unfold Fl.isD
                      rw [decide_eq_true (by omega), decide_eq_true (by omega)]
                      rfl
                    · exact hseen j b h1 (by omega) h3)
                  clear hek hseen hlo hhi
                  go_wp2_with fail
                  go_roundg g
                  case measure => omega
                  case rel => exact ⟨k + 1, by go_num, rfl, Nat.le_succ_of_le hak, hkl, Nat.le_trans hg (Nat.le_of_eq (by rw [Nat.add_assoc, Nat.add_comm 1 g])), HS.out⟩
            · obtain rfl : k = s.size := by omega
              have n1 : decide (s.size < s.size) = false := decide_eq_false hkl
              have E := Lib.hid (show V = true by rw [HVZ.out]; rw [← HZ.out] at hseen; exact seen_all hseen)
              clear hseen hs
              go_wp2_with fail
              go_ret
              exact ⟨by rw [E.out]; rfl, rfl⟩
        | true =>
          have hb1f : b1 = false := by simpa using hbb
          subst hb1f
          clear hbb
          go_wp2_with fail
          go_loopg [4] s.size (fun g t wx => ∃ k : Nat, t = .int .i64 (k : Int) ∧ wx = wc ∧ a ≤ k ∧ k ≤ s.size ∧ s.size ≤ k + g ∧ SeenD s.data.toList a k)
          case atStart => exact ⟨a, rfl, rfl, Nat.le_refl _, haz, by omega, fun j b h1 h2 => absurd h2 (by omega)⟩
          case round =>
            obtain ⟨k, rfl, hww, hak, hks, hg, hseen⟩ := hrel
            subst hww
            by_cases hkl : k < s.size
            · obtain ⟨g, rfl⟩ : ∃ g, gk = g + 1 := ⟨gk - 1, by omega⟩
              obtain ⟨e, he⟩ : ∃ e : UInt8, s[k]'hkl = e := ⟨_, rfl⟩
              have hek := byte_at hkl he
              have hk0 : (0 : Int) ≤ (k : Int) := by omega
              have hki : (k : Int) < s.size := by omega
              have n1 : decide (k < s.size) = true := decide_eq_true hkl
              by_cases hlo : e.toNat < 48
              · have n2 : decide ((e.toNat : Int) < 48) = true := decide_eq_true (by omega)
                have n3 : decide (e.toNat < 48) = true := decide_eq_true hlo
                have E := Lib.hid (show V = false by rw [HVZ.out]; exact seen_not hak hek (by unfold Fl.isD; rw [decide_eq_false (by omega)]; rfl))
                clear hek hseen hlo hs
                go_wp2_with fail
                go_ret
                exact ⟨by rw [E.out]; rfl, rfl⟩
              · have n2 : decide ((e.toNat : Int) < 48) = false := decide_eq_false (by omega)
                have n3 : decide (e.toNat < 48) = false := decide_eq_false hlo
                by_cases hhi : 57 < e.toNat
                · have n4 : decide ((57 : Int) < (e.toNat : Int)) = true := decide_eq_true (by omega)
                  have n5 : decide (57 < e.toNat) = true := decide_eq_true hhi
                  have E := Lib.hid (show V = false by rw [HVZ.out]; exact seen_not hak hek (by unfold Fl.isD; rw [decide_eq_false (show ¬ e.toNat ≤ 57 by omega)]; simp))
                  clear hek hseen hlo hhi hs
                  go_wp2_with fail
                  go_ret
                  exact ⟨by rw [E.out]; rfl, rfl⟩
                · have n4 : decide ((57 : Int) < (e.toNat : Int)) = false := decide_eq_false (by omega)
                  have n5 : decide (57 < e.toNat) = false := decide_eq_false hhi
                  have HS := Lib.hid (show SeenD s.data.toList a (k + 1) from fun j b h1 h2 h3 => by
                    by_cases hj : j = k
                    · rw [hj, hek] at h3
                      cases h3
                      unfold Fl.isD
                      rw [decide_eq_true (by omega), decide_eq_true (by omega)]
                      rfl
                    · exact hseen j b h1 (by omega) h3)
                  clear hek hseen hlo hhi
                  go_wp2_with fail
                  go_roundg g
                  case measure => omega
                  case rel => exact ⟨k + 1, by go_num, rfl, Nat.le_succ_of_le hak, hkl, Nat.le_trans hg (Nat.le_of_eq (by rw [Nat.add_assoc, Nat.add_comm 1 g])), HS.out⟩
            · obtain rfl : k = s.size := by omega
              have n1 : decide (s.size < s.size) = false := decide_eq_false hkl
              have E := Lib.hid (show V = true by rw [HVZ.out]; rw [← HZ.out] at hseen; exact seen_all hseen)
              clear hseen hs
              go_wp2_with fail
              go_ret
              exact ⟨by rw [E.out]; rfl, rfl⟩
end Go.Proofs.YtjapgpmoojfhnaaGreatDoor
