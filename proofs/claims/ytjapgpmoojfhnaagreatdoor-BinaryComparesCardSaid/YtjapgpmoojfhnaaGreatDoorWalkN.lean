/- The reference: the text of zero, Neg, small. -/
import Derived.Test.YtjapgpmoojfhnaaGreatDoorWalkM
namespace Go.Proofs.YtjapgpmoojfhnaaGreatDoor
open Go.RowKit Go.Lib

namespace Fl
theorem digL_facts : ∀ {u : Nat}, u ≠ 0 → (0 < (digL u).length ∧ (digL u).length ≤ u ∧ (∀ x ∈ digL u, x < 10) ∧ (∃ d, (digL u)[(digL u).length - 1]? = some d ∧ d ≠ 0) ∧ decDigits u = (digL u).reverse.map fun x => UInt8.ofNat (48 + x)) := by
  intro u
  induction u using Nat.strongRecOn with
  | _ u ih =>
    intro h
    rw [digL_pos h]
    by_cases h2 : u / 10 = 0
    · rw [h2, digL_zero]
      refine ⟨by simp, by simp; omega, ?_, ⟨u % 10, by simp, by omega⟩, ?_⟩
      · intro x hx
        simp at hx
        omega
      · rw [decDigits_one (show u < 10 by omega), show u % 10 = u by omega]
        rfl
    · obtain ⟨a1, a2, a3, ⟨d, a4, a5⟩, a6⟩ := ih (u / 10) (by omega) h2
      refine ⟨by simp, by rw [List.length_cons]; omega, ?_, ⟨d, ?_, a5⟩, ?_⟩
      · intro x hx
        rcases List.mem_cons.1 hx with rfl | hx
        · omega
        · exact a3 x hx
      · rw [List.length_cons, Nat.add_sub_cancel]
        obtain ⟨k, hk⟩ : ∃ k, (digL (u / 10)).length = k + 1 := ⟨(digL (u / 10)).length - 1, by omega⟩
        rw [hk, List.getElem?_cons_succ]
        rw [hk, Nat.add_sub_cancel] at a4
        exact a4
      · rw [decDigits, dif_neg (by omega), a6, List.reverse_cons, List.map_append]
        rfl
theorem intN_is {u : Nat} (h : u ≠ 0) (neg : Bool) : ((intN neg (digL u)).map UInt8.ofNat) = (if neg = true then [45] else []) ++ decDigits u := by
  rw [(digL_facts h).2.2.2.2]
  unfold intN pm
  cases neg <;> simp
end Fl
set_option maxHeartbeats 1000000 in
set_option maxRecDepth 100000 in
theorem inttext_zero (neg : Bool) (A : Option Addr) (c : Nat) (w : World) : Calls Tryz.prog 19 #[.agg #[.bool neg, .slice A 0 c]] w fun x w' => x = .returned (.string ⟨#[48]⟩) ∧ Below w.heap.size w w' := by
  go_enter Tryz.func19, Tryz.ntmps19
  go_wp2_with fail
  go_ret
  exact ⟨rfl, (Below.refl _ _).alloc (Nat.le_refl _) _⟩
/-- of64, then Text. -/
theorem ofText (u : Nat) (hu : u < 18446744073709551616) (w : World) : Calls Tryz.prog 50 #[.int .u64 (u : Int)] w fun x w' => ∃ A n c, x = .returned (.agg #[.bool false, .slice A n c]) ∧ Below w.heap.size w w' ∧
    (∀ W, Below w'.heap.size w' W → Calls Tryz.prog 19 #[.agg #[.bool false, .slice A n c]] W fun y W' => y = .returned (.string ⟨(decDigits u).toArray⟩) ∧ Below W.heap.size W W') ∧
    (u ≠ 0 → ∀ W, Below w'.heap.size w' W → Calls Tryz.prog 97 #[.slice A n c, .bool true] W fun y W' => y = .returned (.agg #[.bool true, .slice A n c]) ∧ Below W.heap.size W W') ∧
    (u ≠ 0 → ∀ W, Below w'.heap.size w' W → Calls Tryz.prog 19 #[.agg #[.bool true, .slice A n c]] W fun y W' => y = .returned (.string ⟨(45 :: decDigits u).toArray⟩) ∧ Below W.heap.size W W') := by
  refine (of64_any u w hu).mono ?_
  rintro x w' ⟨v, rfl, ho, hb⟩
  obtain ⟨A, c, rfl, hnc, hr⟩ := own_slice ho
  refine ⟨A, _, c, rfl, hb, fun W hW => ?_, fun h0 W hW => ?_, fun h0 W hW => ?_⟩
  · by_cases h0 : u = 0
    · subst h0
      rw [Fl.digL_zero]
      have h := inttext_zero false A c W
      rw [show (⟨#[48]⟩ : ByteArray) = ⟨(decDigits 0).toArray⟩ by rw [decDigits_one (by omega)]; rfl] at h
      exact h
    · obtain ⟨a1, a2, a3, _, _⟩ := Fl.digL_facts h0
      have hlen : (Fl.digL u).length ≤ 100000 := by
        have h1 := (Fl.digL_facts h0).2.2.2.2
        have h2 := congrArg List.length h1
        rw [List.length_map, List.length_reverse, Lib.decDigits_length] at h2
        have := Lib.numDigits_eq u (by omega) hu
        split at this <;> omega
      have h := inttext_any false A _ c (Fl.digL u) W (hr.on hW) a3 hlen a1
      rw [Fl.intN_is h0] at h
      exact h
  · obtain ⟨a1, a2, a3, ⟨d, a4, a5⟩, _⟩ := Fl.digL_facts h0
    have hlen : (Fl.digL u).length ≤ 1073741824 := by
      have h1 := (Fl.digL_facts h0).2.2.2.2
      have h2 := congrArg List.length h1
      rw [List.length_map, List.length_reverse, Lib.decDigits_length] at h2
      have := Lib.numDigits_eq u (by omega) hu
      split at this <;> omega
    exact signed_id A _ c (Fl.digL u) d true W (hr.on hW) a1 hnc hlen a4 a5
  · obtain ⟨a1, a2, a3, _, _⟩ := Fl.digL_facts h0
    have hlen : (Fl.digL u).length ≤ 100000 := by
      have h1 := (Fl.digL_facts h0).2.2.2.2
      have h2 := congrArg List.length h1
      rw [List.length_map, List.length_reverse, Lib.decDigits_length] at h2
      have := Lib.numDigits_eq u (by omega) hu
      split at this <;> omega
    have h := inttext_any true A _ c (Fl.digL u) W (hr.on hW) a3 hlen a1
    rw [Fl.intN_is h0] at h
    exact h
theorem two_blocks (w : World) (o o' : Obj) : ((w.alloc o).alloc o').heap[w.heap.size]? = some o ∧ ((w.alloc o).alloc o').heap[w.heap.size + 1]? = some o' ∧ Below w.heap.size w ((w.alloc o).alloc o') ∧ ((w.alloc o).alloc o').heap.size = w.heap.size + 2 := by
  refine ⟨?_, ?_, ((Below.refl _ _).alloc (Nat.le_refl _) _).alloc (by simp) _, by simp⟩
  · rw [Below.heap_alloc _ _ _ (by simp)]; exact heap_alloc_new w _
  · have := heap_alloc_new (w.alloc o) o'
    simpa using this
set_option maxHeartbeats 1000000 in
set_option maxRecDepth 100000 in
theorem small_any (e : Int) (w : World) (he : -1000000 ≤ e ∧ e ≤ 1000000) : Calls Tryz.prog 51 #[.int .i64 e] w fun x w' => x = .returned (.string ⟨(itoa e).toArray⟩) ∧ Below w.heap.size w w' := by
  by_cases h : e < 0
  · obtain ⟨u, hu⟩ : ∃ u : Nat, -e = (u : Int) := ⟨(-e).toNat, by omega⟩
    have c1 : decide (e < 0) = true := decide_eq_true h
    have g1 : IntKind.i64.wrap (-e) = (u : Int) := by rw [hu]; exact IntWalk.i64_in _ (by omega)
    have g2 : IntKind.u64.wrap (u : Int) = (u : Int) := by rw [IntKind.wrap_u64]; omega
    have OT := Lib.hid (fun W => ofText u (by omega) W)
    have hne : u ≠ 0 := by omega
    have hit : itoa e = 45 :: decDigits u := by rw [show e = -(u : Int) by omega]; exact itoa_neg u (by omega)
    rw [hit]
    have HNE := Lib.hid hne
    clear hu he h hne hit
    go_enter Tryz.func51, Tryz.ntmps51
    go_wp2_with fail
    refine (OT.out _).mono ?_
    rintro x w1 ⟨A, n, c, rfl, hb1, k1, k2, k3⟩
    have K2 := k2 HNE.out
    have K3 := Lib.hid (k3 HNE.out)
    have NG : Calls Tryz.prog 96 #[.agg #[.bool false, .slice A n c]] w1 fun y W' => y = .returned (.agg #[.bool true, .slice A n c]) ∧ Below w1.heap.size w1 W' := by
      obtain ⟨w2, hw2⟩ : ∃ w2 : World, (w1.alloc (.cells #[.bool false, .slice A n c] 33)).alloc (.cells #[.bool false, .slice none 0 0] 33) = w2 := ⟨_, rfl⟩
      obtain ⟨X, hX⟩ : ∃ X, w1.heap.size = X := ⟨_, rfl⟩
      have hq := two_blocks w1 (.cells #[.bool false, .slice A n c] 33) (.cells #[.bool false, .slice none 0 0] 33)
      rw [hw2, hX] at hq
      obtain ⟨q1, q2, hbb, hss⟩ := hq
      have x0 := at_block q1 0 _ rfl
      have x1 := at_block q1 1 _ rfl
      have SG := Lib.hid (K2 w2 (by rw [hX]; exact hbb))
      have HW2 := Lib.hid hw2
      have HX := Lib.hid hX
      have HSS := Lib.hid hss
      have Q2 := Lib.hid q2
      clear hw2 hX q1 q2 k1 k2 k3 K2 hss
      go_enter Tryz.func96, Tryz.ntmps96
      go_upto_region 1 with fail
      rw [HW2.out, HX.out]
      go_wp2_with fail
      refine (SG.out).mono ?_
      rintro y w3 ⟨rfl, hb3⟩
      have q3 := (hb3.block (X + 1) (by rw [HSS.out]; omega)).trans Q2.out
      have z0 := at_block q3 0 _ rfl
      have z1 := at_block q3 1 _ rfl
      have f0 := free_block q3 0
      have f1 := free_block q3 1
      clear q3
      go_wp2_with fail
      refine bodyPost_ret (v := .agg #[.bool true, .slice A n c]) (by simp [results, Tryz.results96, go_sem, z0, z1]) rfl ?_
      refine ⟨rfl, ?_⟩
      have hb4 : Below X w1 w3 := hbb.trans (hb3.mono (by rw [HSS.out]; omega))
      rw [HX.out]
      exact (hb4.setCell (p := ⟨X + 1, 0, none⟩) (by show X ≤ X + 1; omega) _).setCell (p := ⟨X + 1, 1, none⟩) (by show X ≤ X + 1; omega) _
    have NG := Lib.hid NG
    clear k1 k2 k3 K2
    go_wp2_with fail
    refine (NG.out).mono ?_
    rintro x w2 ⟨rfl, hb2⟩
    go_wp2_with fail
    refine (K3.out _ hb2).mono ?_
    rintro x w3 ⟨rfl, hb3⟩
    go_wp2_with fail
    go_ret
    have hb12 := hb1.trans (hb2.mono hb1.size)
    exact ⟨rfl, hb12.trans (hb3.mono hb12.size)⟩
  · obtain ⟨u, rfl⟩ : ∃ u : Nat, e = (u : Int) := ⟨e.toNat, by omega⟩
    have g2 : IntKind.u64.wrap (u : Int) = (u : Int) := by rw [IntKind.wrap_u64]; omega
    have OT := Lib.hid (fun W => ofText u (by omega) W)
    rw [itoa_nonneg]
    have c1 : decide ((u : Int) < 0) = false := decide_eq_false h
    clear he h
    go_enter Tryz.func51, Tryz.ntmps51
    go_wp2_with fail
    refine (OT.out _).mono ?_
    rintro x w1 ⟨A, n, c, rfl, hb1, k1, _, _⟩
    have K1 := Lib.hid k1
    clear k1
    go_wp2_with fail
    refine (K1.out _ (Below.refl _ _)).mono ?_
    rintro x w3 ⟨rfl, hb3⟩
    go_wp2_with fail
    go_ret
    exact ⟨rfl, hb1.trans (hb3.mono hb1.size)⟩
end Go.Proofs.YtjapgpmoojfhnaaGreatDoor
