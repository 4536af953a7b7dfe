/- The reference's number, walked. -/
import Derived.Test.YtjapgpmoojfhnaaGreatDoorWalkZO
namespace Go.Proofs.YtjapgpmoojfhnaaGreatDoor
open Go.RowKit Go.Lib

namespace Fl
theorem numV_lt : ∀ (n : Nat) (t : List UInt8), t.length = n → (∀ b ∈ t, b.toNat ≤ 57) → numV t < 10 ^ n
  | 0, t, hl, _ => by rw [List.eq_nil_of_length_eq_zero hl]; decide
  | n + 1, t, hl, hd => by
    obtain ⟨t', b, rfl⟩ : ∃ t' b, t = t' ++ [b] := ⟨t.dropLast, t.getLast (by intro h; rw [h] at hl; simp at hl), (List.dropLast_concat_getLast _).symm⟩
    have ih := numV_lt n t' (by simpa using hl) (fun x hx => hd x (by simp [hx]))
    have := hd b (by simp)
    rw [numV_snoc, Nat.pow_succ]
    omega
/-- The value of the bytes of a canonical integer that a loop has seen. -/
def seenV (l : List UInt8) (k : Nat) : Nat := numV ((l.take k).drop (at1 l))
theorem seenV_skip {l : List UInt8} {k : Nat} (h : k + 1 ≤ at1 l) : seenV l (k + 1) = seenV l k := by
  unfold seenV
  rw [List.drop_eq_nil_of_le (by rw [List.length_take]; omega), List.drop_eq_nil_of_le (by rw [List.length_take]; omega)]
theorem seenV_next {l : List UInt8} {k : Nat} {d : UInt8} (h : at1 l ≤ k) (hd : l[k]? = some d) : seenV l (k + 1) = 10 * seenV l k + (d.toNat - 48) := by
  have hk : k < l.length := by
    rcases Nat.lt_or_ge k l.length with h' | h'
    · exact h'
    · rw [List.getElem?_eq_none h'] at hd; cases hd
  unfold seenV
  rw [List.take_add_one, hd, List.drop_append_of_le_length (by rw [List.length_take]; omega)]
  exact numV_snoc _ _
theorem seenV_lt {l : List UInt8} (h : vB l = true) (k : Nat) (hk : k ≤ 18) : seenV l k < 1000000000000000000 := by
  obtain ⟨_, h2, _⟩ := vB_digits h
  unfold seenV
  have h3 : ∀ b ∈ (l.take k).drop (at1 l), b.toNat ≤ 57 := fun b hb => by
    rw [List.drop_take] at hb
    exact (h2 b (List.mem_of_mem_take hb)).2
  refine Nat.lt_of_lt_of_le (numV_lt _ _ rfl h3) (Nat.le_trans (Nat.pow_le_pow_right (by decide) (?_ : _ ≤ 18)) (by decide))
  rw [List.length_drop, List.length_take]
  omega
theorem at_digit {l : List UInt8} (h : vB l = true) {k : Nat} {d : UInt8} (hk : at1 l ≤ k) (hd : l[k]? = some d) : 48 ≤ d.toNat ∧ d.toNat ≤ 57 := by
  obtain ⟨_, h2, _⟩ := vB_digits h
  refine h2 d ?_
  have : (l.drop (at1 l))[k - at1 l]? = some d := by rw [List.getElem?_drop, Nat.add_sub_cancel' hk]; exact hd
  exact List.mem_of_getElem? this
theorem numI_seen {l : List UInt8} : numI l = if at1 l = 1 then -(seenV l l.length : Int) else (seenV l l.length : Int) := by
  unfold numI seenV
  rw [List.take_length]
  by_cases h : at1 l = 1
  · rw [if_pos h, if_pos h, h]
  · have h0 : at1 l = 0 := by
      unfold at1 at h ⊢
      split
      · rename_i hc
        rw [if_pos hc] at h
        exact absurd rfl h
      · rfl
    rw [if_neg h, if_neg h, h0, List.drop_zero]
end Fl
set_option maxHeartbeats 2000000 in
set_option maxRecDepth 100000 in
theorem refnumber_bad (s : ByteArray) (hs : s.size ≤ 300) (h : Fl.vB s.data.toList = false ∨ 18 < s.size) (w : World) : Calls Tryz.prog 71 #[.string s] w fun x w' => x = .returned (.tuple #[.int .i64 0, .bool false]) ∧ w' = w := by
  have RV := fun W => refvalid_any s hs W
  obtain ⟨V, hV⟩ : ∃ V, Fl.vB s.data.toList = V := ⟨_, rfl⟩
  rw [hV] at RV h
  have RV := Lib.hid RV
  clear hV
  cases V with
  | false =>
    clear h hs
    go_enter Tryz.func71, Tryz.ntmps71
    go_wp2_with fail
    refine (RV.out _).mono ?_
    rintro x w1 ⟨rfl, rfl⟩
    go_wp2_with fail
    go_ret2
    exact ⟨rfl, rfl⟩
  | true =>
    have h18 : 18 < s.size := h.resolve_left (by simp)
    have c1 : decide (18 < s.size) = true := decide_eq_true h18
    have c2 : decide ((18 : Int) < (s.size : Int)) = true := decide_eq_true (by omega)
    clear h hs h18
    go_enter Tryz.func71, Tryz.ntmps71
    go_wp2_with fail
    refine (RV.out _).mono ?_
    rintro x w1 ⟨rfl, rfl⟩
    go_wp2_with fail
    go_ret2
    exact ⟨rfl, rfl⟩
set_option maxHeartbeats 2000000 in
set_option maxRecDepth 100000 in
theorem refnumber_good (s : ByteArray) (h18 : s.size ≤ 18) (hv : Fl.vB s.data.toList = true) (w : World) : Calls Tryz.prog 71 #[.string s] w fun x w' => x = .returned (.tuple #[.int .i64 (Fl.numI s.data.toList), .bool true]) ∧ w' = w := by
  have RV := fun W => refvalid_any s (by omega) W
  rw [hv] at RV
  have RV := Lib.hid RV
  have hsz : s.data.toList.length = s.size := (ba_size s).symm
  have hni := Fl.numI_seen (l := s.data.toList)
  rw [hsz] at hni
  obtain ⟨I, hI⟩ : ∃ I, Fl.numI s.data.toList = I := ⟨_, rfl⟩
  rw [hI] at hni ⊢
  have h0 : 0 < s.size := by
    obtain ⟨h1, _, _⟩ := Fl.vB_digits hv
    rw [List.length_drop, hsz] at h1
    omega
  have c1 : decide (18 < s.size) = false := decide_eq_false (by omega)
  have c2 : decide ((18 : Int) < (s.size : Int)) = false := decide_eq_false (by omega)
  have HV := Lib.hid hv
  have HN := Lib.hid hni
  clear hv hsz hni hI
  go_enter Tryz.func71, Tryz.ntmps71
  go_wp2_with fail
  refine (RV.out _).mono ?_
  rintro x w1 ⟨rfl, rfl⟩
  go_wp2_with fail
  go_loopg [4, 5] s.size (fun g t4 t5 wx => ∃ k : Nat, t5 = .int .i64 (k : Int) ∧ t4 = .int .i64 (Fl.seenV s.data.toList k : Int) ∧ wx = w1 ∧ k ≤ s.size ∧ s.size ≤ k + g)
  case atStart => exact ⟨0, rfl, by simp [Fl.seenV, Fl.numV], rfl, by omega, by omega⟩
  case round =>
    obtain ⟨k, rfl, rfl, hww, hks, hg⟩ := hrel
    subst hww
    by_cases hkl : k < s.size
    · obtain ⟨g, rfl⟩ : ∃ g, gk = g + 1 := ⟨gk - 1, by omega⟩
      obtain ⟨e, he⟩ : ∃ e : UInt8, s[k]'hkl = e := ⟨_, rfl⟩
      have hek := byte_at hkl he
      have hk0 : (0 : Int) ≤ (k : Int) := by omega
      have hki : (k : Int) < s.size := by omega
      have n1 : decide (k < s.size) = true := decide_eq_true hkl
      by_cases hak : Fl.at1 s.data.toList ≤ k
      · obtain ⟨d1, d2⟩ := Fl.at_digit HV.out hak hek
        have hnext := Fl.seenV_next hak hek
        have hlt := Fl.seenV_lt HV.out k (by omega)
        have hlt2 := Fl.seenV_lt HV.out (k + 1) (by omega)
        obtain ⟨N, hN⟩ : ∃ N, Fl.seenV s.data.toList k = N := ⟨_, rfl⟩
        obtain ⟨N2, hN2⟩ : ∃ N, Fl.seenV s.data.toList (k + 1) = N := ⟨_, rfl⟩
        rw [hN] at hnext hlt
        rw [hN2] at hnext hlt2
        obtain ⟨c, hc⟩ : ∃ c, e.toNat = c := ⟨_, rfl⟩
        obtain ⟨c', hc'⟩ : ∃ c', c - 48 = c' := ⟨_, rfl⟩
        obtain ⟨T, hT⟩ : ∃ T, 10 * N = T := ⟨_, rfl⟩
        rw [hc] at d1 d2 hnext
        have n2 : ((c : Int) == 45) = false := by rw [beq_eq_false_iff_ne]; omega
        have n2b : ((c : Int) != 45) = true := by rw [bne_iff_ne]; omega
        have n3 : IntKind.u8.wrap ((c : Int) - 48) = (c' : Int) := by rw [IntKind.wrap_u8]; omega
        have n4 : IntKind.i64.wrap (c' : Int) = (c' : Int) := IntWalk.i64_in _ (by omega)
        have n5 : IntKind.i64.wrap (10 * (N : Int)) = (T : Int) := by rw [show 10 * (N : Int) = (T : Int) by omega]; exact IntWalk.i64_in _ (by omega)
        have n6 : IntKind.i64.wrap ((T : Int) + (c' : Int)) = (N2 : Int) := by rw [show (T : Int) + (c' : Int) = (N2 : Int) by omega]; exact IntWalk.i64_in _ (by omega)
        have HN2 := Lib.hid hN2
        rw [hN]
        clear hek hnext hlt hlt2 hN hN2 hc' hT d1 d2 hak
        go_wp2_with fail
        go_roundg g
        case measure => omega
        case rel => exact ⟨k + 1, by go_num, by rw [HN2.out], rfl, hkl, Nat.le_trans hg (Nat.le_of_eq (by rw [Nat.add_assoc, Nat.add_comm 1 g]))⟩
      · have ha1 : Fl.at1 s.data.toList = 1 ∧ k = 0 := by
          have : Fl.at1 s.data.toList ≤ 1 := by unfold Fl.at1; split <;> omega
          omega
        have he45 : e = 45 := by
          obtain ⟨rfl⟩ := ha1.2
          have hat := at1_of h0 he
          rw [ha1.1] at hat
          by_cases h : e = 45
          · exact h
          · rw [if_neg h] at hat; cases hat
        subst he45
        have HS := Lib.hid (Fl.seenV_skip (l := s.data.toList) (k := k) (by omega))
        obtain ⟨N, hN⟩ : ∃ N, Fl.seenV s.data.toList k = N := ⟨_, rfl⟩
        have HNN := Lib.hid hN
        rw [hN]
        have n2 : (((45 : UInt8).toNat : Int) == 45) = true := rfl
        clear hek hN hak ha1
        go_wp2_with fail
        go_roundg g
        case measure => omega
        case rel => exact ⟨k + 1, by go_num, by rw [HS.out, HNN.out], rfl, hkl, Nat.le_trans hg (Nat.le_of_eq (by rw [Nat.add_assoc, Nat.add_comm 1 g]))⟩
    · obtain rfl : k = s.size := by omega
      have n1 : decide (s.size < s.size) = false := decide_eq_false hkl
      obtain ⟨d0, hd0⟩ : ∃ d : UInt8, s[0]'h0 = d := ⟨_, rfl⟩
      have hat := at1_of h0 hd0
      have hlt := Fl.seenV_lt HV.out s.size (by omega)
      have hni := HN.out
      rw [hat] at hni
      obtain ⟨N, hN⟩ : ∃ N, Fl.seenV s.data.toList s.size = N := ⟨_, rfl⟩
      rw [hN] at hni hlt ⊢
      by_cases hc : d0 = 45
      · rw [if_pos hc, if_pos rfl] at hni
        have n2 : ((d0.toNat : Int) == 45) = true := by rw [hc]; rfl
        have n3 : IntKind.i64.wrap (-(N : Int)) = -(N : Int) := IntWalk.i64_in _ (by omega)
        have E := Lib.hid hni
        clear hat hlt hni hN hc
        go_wp2_with fail
        go_ret2
        exact ⟨by rw [E.out]; rfl, rfl⟩
      · rw [if_neg hc, if_neg (by decide)] at hni
        have n2 : ((d0.toNat : Int) == 45) = false := byte_eq (c := 45) hc
        have E := Lib.hid hni
        clear hat hlt hni hN hc
        go_wp2_with fail
        go_ret2
        exact ⟨by rw [E.out]; rfl, rfl⟩
end Go.Proofs.YtjapgpmoojfhnaaGreatDoor
