/- The contract of the reference's Cmp. The law's ones. The contract of the reference's Add. The contract of the reference's Mul. -/
import Derived.Test.YtmgafnflkfbckaaGreatDoorWalkAA
import Derived.Test.YtmgafnflkfbckaaGreatDoorPlain7
import Derived.Test.YtmgafnflkfbckaaGreatDoorWalkV
import Derived.Test.YtmgafnflkfbckaaGreatDoorWalkAK
namespace Go.Proofs.YtmgafnflkfbckaaGreatDoor
open Go.RowKit Go.Lib

set_option maxHeartbeats 1000000 in
set_option maxRecDepth 100000 in
theorem refcmp_any (g : Bool) (A : Option Addr) (n c : Nat) (l : List Nat) (e : Int) (g' : Bool) (A' : Option Addr) (m c' : Nat) (l' : List Nat) (e' : Int) (w : World)
    (hr : Reads w w.heap.size A n (i64s l)) (hr' : Reads w w.heap.size A' m (i64s l')) (hn : n ≤ 10000) (hm : m ≤ 10000) (he : -10000 ≤ e ∧ e ≤ 10000) (he' : -10000 ≤ e' ∧ e' ≤ 10000) :
    Calls Tryz.prog 13 #[.agg #[.bool g, .slice A n c, .int .i64 e], .agg #[.bool g', .slice A' m c', .int .i64 e']] w fun x w' => x = .returned (.int .i64 (Dc.refCmpP ⟨g, l, e⟩ ⟨g', l', e'⟩)) ∧ Below w.heap.size w w' := by
  have hln : l.length = n := by have := hr.1; rwa [i64s_len] at this
  have hlm : l'.length = m := by have := hr'.1; rwa [i64s_len] at this
  obtain ⟨w2, X, hw2, hX, hb2, hsz, hcells⟩ := box_tworef g A n c e g' A' m c' e' w
  obtain ⟨E, hE⟩ : ∃ E, min e e' = E := ⟨_, rfl⟩
  have hN : Dc.alN ⟨g, l, e⟩ ⟨g', l', e'⟩ ≤ 1073741824 := by
    have h1 : (Dc.padL ⟨g, l, e⟩ (min e e')).length ≤ 40000 := by
      rw [Dc.padL]; split
      · simp
      · simp only [List.length_append, List.length_replicate]; omega
    have h2 : (Dc.padL ⟨g', l', e'⟩ (min e e')).length ≤ 40000 := by
      rw [Dc.padL]; split
      · simp
      · simp only [List.length_append, List.length_replicate]; omega
    rw [Dc.alN, Dc.alE]
    simp only
    omega
  have AL := align_any g A n c l e g' A' m c' l' e' E w2 (hr.on hb2) (hr'.on hb2) hn hm he he' hE
  obtain ⟨N, hNN⟩ : ∃ N, Dc.alN ⟨g, l, e⟩ ⟨g', l', e'⟩ = N := ⟨_, rfl⟩
  obtain ⟨a, ha⟩ : ∃ a, Dc.alX ⟨g, l, e⟩ ⟨g', l', e'⟩ = a := ⟨_, rfl⟩
  obtain ⟨b, hb⟩ : ∃ b, Dc.alY ⟨g, l, e⟩ ⟨g', l', e'⟩ = b := ⟨_, rfl⟩
  rw [hNN] at hN
  rw [hNN, ha, hb] at AL
  have AL : Calls Tryz.prog 25 #[.agg #[.bool g, .slice A n c, .int .i64 e], .agg #[.bool g', .slice A' m c', .int .i64 e']] w2 fun x w' => ∃ A1 c1 A2 c2, x = .returned (.tuple #[.slice A1 N c1, .slice A2 N c2, .int .i64 E]) ∧
      Reads w' w'.heap.size A1 N (i64s a) ∧ Reads w' w'.heap.size A2 N (i64s b) ∧ Below w2.heap.size w2 w' := by
    refine AL.mono ?_
    rintro x w' ⟨v1, v2, rfl, o1, o2, hb⟩
    obtain ⟨A1, c1, rfl, _, r1⟩ := own_slice o1
    obtain ⟨A2, c2, rfl, _, r2⟩ := own_slice o2
    exact ⟨A1, c1, A2, c2, rfl, r1, r2, hb⟩
  obtain ⟨R, hR⟩ : ∃ R, Dc.refCmpP ⟨g, l, e⟩ ⟨g', l', e'⟩ = R := ⟨_, rfl⟩
  rw [hR]
  rw [Dc.refCmpP, ha, hb] at hR
  simp only at hR
  have h0 : l = [] ↔ n = 0 := by rw [← List.length_eq_zero_iff, hln]
  have h0' : l' = [] ↔ m = 0 := by rw [← List.length_eq_zero_iff, hlm]
  simp only [h0, h0'] at hR
  have AL := Lib.hid AL
  have HR := Lib.hid hR
  have HW2 := Lib.hid hw2
  have HX := Lib.hid hX
  have HC := Lib.hid hcells
  have HB := Lib.hid hb2
  have HNN := Lib.hid hN
  clear hr hr' hw2 hX hcells hsz hb2 hE hN hNN ha hb hR h0 h0' hln hlm
  have hd2 : Below w2.heap.size w2 w2 := Below.refl _ _
  obtain ⟨p0, p1, p2, q0, q1, q2, _⟩ := HC.out _ hd2
  by_cases hz : n = 0 ∧ m = 0
  · obtain ⟨hz1, hz2⟩ := hz
    subst hz1 hz2
    have h := HR.out
    rw [if_pos ⟨rfl, rfl⟩] at h
    subst h
    go_enter Tryz.func13, Tryz.ntmps13
    go_upto_region 1 with fail
    rw [HW2.out, HX.out]
    go_wp2_with fail
    refine (AL.out).mono ?_
    rintro x w3 ⟨A1, c1, A2, c2, rfl, hr1, hr2, hb3⟩
    have HR1 := Lib.hid hr1
    have HR2 := Lib.hid hr2
    clear hr1 hr2 p0 p1 p2 q0 q1 q2
    obtain ⟨p0, p1, p2, q0, q1, q2, _⟩ := HC.out _ hb3
    go_wp2_with fail
    go_ret
    exact ⟨rfl, HB.out.trans (hb3.mono HB.out.size)⟩
  · have hcase : (n = 0 ∧ ¬ m = 0) ∨ ¬ n = 0 := by omega
    rcases hcase with ⟨k1, k2⟩ | k1
    · subst k1
      have k3 : ((m : Int) == 0) = false := by simp; omega
      cases g with
      | true =>
        cases g' with
        | true =>
          have h := HR.out
          rw [if_neg hz] at h
          simp only [bne_self_eq_false, Bool.false_eq_true, if_false, if_true] at h
          subst h
          go_enter Tryz.func13, Tryz.ntmps13
          go_upto_region 1 with fail
          rw [HW2.out, HX.out]
          go_wp2_with fail
          refine (AL.out).mono ?_
          rintro x w3 ⟨A1, c1, A2, c2, rfl, hr1, hr2, hb3⟩
          have HR1 := Lib.hid hr1
          have HR2 := Lib.hid hr2
          clear hr1 hr2 p0 p1 p2 q0 q1 q2
          obtain ⟨p0, p1, p2, q0, q1, q2, _⟩ := HC.out _ hb3
          go_wp2_with fail
          refine (size_any A2 A1 N c2 c1 b a _ HR2.out HR1.out HNN.out).mono ?_
          rintro x w4 ⟨rfl, hb4⟩
          go_wp2_with fail
          go_ret
          exact ⟨rfl, HB.out.trans ((hb3.trans (hb4.mono hb3.size)).mono HB.out.size)⟩
        | false =>
          have h := HR.out
          rw [if_neg hz] at h
          simp only [show (((true : Bool) != false) = true) from rfl, if_true] at h
          subst h
          go_enter Tryz.func13, Tryz.ntmps13
          go_upto_region 1 with fail
          rw [HW2.out, HX.out]
          go_wp2_with fail
          refine (AL.out).mono ?_
          rintro x w3 ⟨A1, c1, A2, c2, rfl, hr1, hr2, hb3⟩
          have HR1 := Lib.hid hr1
          have HR2 := Lib.hid hr2
          clear hr1 hr2 p0 p1 p2 q0 q1 q2
          obtain ⟨p0, p1, p2, q0, q1, q2, _⟩ := HC.out _ hb3
          go_wp2_with fail
          go_ret
          exact ⟨rfl, HB.out.trans (hb3.mono HB.out.size)⟩
      | false =>
        cases g' with
        | true =>
          have h := HR.out
          rw [if_neg hz] at h
          simp only [show (((false : Bool) != true) = true) from rfl, Bool.false_eq_true, if_false, if_true] at h
          subst h
          go_enter Tryz.func13, Tryz.ntmps13
          go_upto_region 1 with fail
          rw [HW2.out, HX.out]
          go_wp2_with fail
          refine (AL.out).mono ?_
          rintro x w3 ⟨A1, c1, A2, c2, rfl, hr1, hr2, hb3⟩
          have HR1 := Lib.hid hr1
          have HR2 := Lib.hid hr2
          clear hr1 hr2 p0 p1 p2 q0 q1 q2
          obtain ⟨p0, p1, p2, q0, q1, q2, _⟩ := HC.out _ hb3
          go_wp2_with fail
          go_ret
          exact ⟨rfl, HB.out.trans (hb3.mono HB.out.size)⟩
        | false =>
          have h := HR.out
          rw [if_neg hz] at h
          simp only [bne_self_eq_false, Bool.false_eq_true, if_false] at h
          subst h
          go_enter Tryz.func13, Tryz.ntmps13
          go_upto_region 1 with fail
          rw [HW2.out, HX.out]
          go_wp2_with fail
          refine (AL.out).mono ?_
          rintro x w3 ⟨A1, c1, A2, c2, rfl, hr1, hr2, hb3⟩
          have HR1 := Lib.hid hr1
          have HR2 := Lib.hid hr2
          clear hr1 hr2 p0 p1 p2 q0 q1 q2
          obtain ⟨p0, p1, p2, q0, q1, q2, _⟩ := HC.out _ hb3
          go_wp2_with fail
          refine (size_any A1 A2 N c1 c2 a b _ HR1.out HR2.out HNN.out).mono ?_
          rintro x w4 ⟨rfl, hb4⟩
          go_wp2_with fail
          go_ret
          exact ⟨rfl, HB.out.trans ((hb3.trans (hb4.mono hb3.size)).mono HB.out.size)⟩
    · have k3 : ((n : Int) == 0) = false := by simp; omega
      cases g with
      | true =>
        cases g' with
        | true =>
          have h := HR.out
          rw [if_neg hz] at h
          simp only [bne_self_eq_false, Bool.false_eq_true, if_false, if_true] at h
          subst h
          go_enter Tryz.func13, Tryz.ntmps13
          go_upto_region 1 with fail
          rw [HW2.out, HX.out]
          go_wp2_with fail
          refine (AL.out).mono ?_
          rintro x w3 ⟨A1, c1, A2, c2, rfl, hr1, hr2, hb3⟩
          have HR1 := Lib.hid hr1
          have HR2 := Lib.hid hr2
          clear hr1 hr2 p0 p1 p2 q0 q1 q2
          obtain ⟨p0, p1, p2, q0, q1, q2, _⟩ := HC.out _ hb3
          go_wp2_with fail
          refine (size_any A2 A1 N c2 c1 b a _ HR2.out HR1.out HNN.out).mono ?_
          rintro x w4 ⟨rfl, hb4⟩
          go_wp2_with fail
          go_ret
          exact ⟨rfl, HB.out.trans ((hb3.trans (hb4.mono hb3.size)).mono HB.out.size)⟩
        | false =>
          have h := HR.out
          rw [if_neg hz] at h
          simp only [show (((true : Bool) != false) = true) from rfl, if_true] at h
          subst h
          go_enter Tryz.func13, Tryz.ntmps13
          go_upto_region 1 with fail
          rw [HW2.out, HX.out]
          go_wp2_with fail
          refine (AL.out).mono ?_
          rintro x w3 ⟨A1, c1, A2, c2, rfl, hr1, hr2, hb3⟩
          have HR1 := Lib.hid hr1
          have HR2 := Lib.hid hr2
          clear hr1 hr2 p0 p1 p2 q0 q1 q2
          obtain ⟨p0, p1, p2, q0, q1, q2, _⟩ := HC.out _ hb3
          go_wp2_with fail
          go_ret
          exact ⟨rfl, HB.out.trans (hb3.mono HB.out.size)⟩
      | false =>
        cases g' with
        | true =>
          have h := HR.out
          rw [if_neg hz] at h
          simp only [show (((false : Bool) != true) = true) from rfl, Bool.false_eq_true, if_false, if_true] at h
          subst h
          go_enter Tryz.func13, Tryz.ntmps13
          go_upto_region 1 with fail
          rw [HW2.out, HX.out]
          go_wp2_with fail
          refine (AL.out).mono ?_
          rintro x w3 ⟨A1, c1, A2, c2, rfl, hr1, hr2, hb3⟩
          have HR1 := Lib.hid hr1
          have HR2 := Lib.hid hr2
          clear hr1 hr2 p0 p1 p2 q0 q1 q2
          obtain ⟨p0, p1, p2, q0, q1, q2, _⟩ := HC.out _ hb3
          go_wp2_with fail
          go_ret
          exact ⟨rfl, HB.out.trans (hb3.mono HB.out.size)⟩
        | false =>
          have h := HR.out
          rw [if_neg hz] at h
          simp only [bne_self_eq_false, Bool.false_eq_true, if_false] at h
          subst h
          go_enter Tryz.func13, Tryz.ntmps13
          go_upto_region 1 with fail
          rw [HW2.out, HX.out]
          go_wp2_with fail
          refine (AL.out).mono ?_
          rintro x w3 ⟨A1, c1, A2, c2, rfl, hr1, hr2, hb3⟩
          have HR1 := Lib.hid hr1
          have HR2 := Lib.hid hr2
          clear hr1 hr2 p0 p1 p2 q0 q1 q2
          obtain ⟨p0, p1, p2, q0, q1, q2, _⟩ := HC.out _ hb3
          go_wp2_with fail
          refine (size_any A1 A2 N c1 c2 a b _ HR1.out HR2.out HNN.out).mono ?_
          rintro x w4 ⟨rfl, hb4⟩
          go_wp2_with fail
          go_ret
          exact ⟨rfl, HB.out.trans ((hb3.trans (hb4.mono hb3.size)).mono HB.out.size)⟩
end Go.Proofs.YtmgafnflkfbckaaGreatDoor

namespace Go.Proofs.YtmgafnflkfbckaaGreatDoor
open Go.RowKit Go.Lib

end Go.Proofs.YtmgafnflkfbckaaGreatDoor

namespace Go.Proofs.YtmgafnflkfbckaaGreatDoor
open Go.RowKit Go.Lib

/-- A place of the reference's sum. -/
theorem Dc.addStep_ref {same : Bool} {x y : Nat} {cy : Int} (hx : x < 10) (hy : y < 10) (hc : Dc.okC same cy) :
    let s := if same = true then (x : Int) + y + cy else (x : Int) - y + cy
    ((Dc.addStep same x y cy).1 : Int) = (if 9 < s then s - 10 else if s < 0 then s + 10 else s) ∧ (Dc.addStep same x y cy).2 = (if 9 < s then 1 else if s < 0 then -1 else 0) := by
  cases same with
  | true =>
    rw [Dc.okC, if_pos rfl] at hc
    simp only [Dc.addStep, if_true]
    constructor
    · split
      · omega
      · split <;> omega
    · split
      · omega
      · split <;> omega
  | false =>
    rw [Dc.okC, if_neg (by simp)] at hc
    simp only [Dc.addStep, Bool.false_eq_true, if_false]
    by_cases h1 : (x : Int) + cy - y < 0
    · simp only [h1, if_true]
      refine ⟨?_, ?_⟩ <;> (repeat' split) <;> omega
    · simp only [h1, if_false]
      refine ⟨?_, ?_⟩ <;> (repeat' split) <;> omega
theorem RNumO.less {base base' : Nat} {w : World} {v : Value} {x : Dc.D} (h : RNumO base w v x) (hb : base' ≤ base) : RNumO base' w v x := by
  obtain ⟨A, c, e, ho⟩ := h
  exact ⟨A, c, e, own_base ho hb⟩
theorem RNumO.beside {base : Nat} {w w' : World} {v : Value} {x : Dc.D} {X : Nat} (h : RNumO base w v x) (hX : X < base) (hk : ∀ k, k ≠ X → w'.heap[k]? = w.heap[k]?) : RNumO base w' v x := by
  obtain ⟨A, c, e, h1, h2⟩ := h
  refine ⟨A, c, e, h1, ?_⟩
  rcases h2 with h2 | ⟨g, cap, cur, hv, hb, hg, hr⟩
  · exact .inl h2
  · exact .inr ⟨g, cap, cur, hv, hb, (hk g (by omega)).trans hg, hr⟩
set_option maxHeartbeats 2000000 in
set_option maxRecDepth 100000 in
theorem refadd_any (g : Bool) (A : Option Addr) (n c : Nat) (l : List Nat) (e : Int) (g' : Bool) (A' : Option Addr) (m c' : Nat) (l' : List Nat) (e' : Int) (w : World)
    (hr : Reads w w.heap.size A n (i64s l)) (hr' : Reads w w.heap.size A' m (i64s l')) (hd : Dc.Digs l) (hd' : Dc.Digs l') (hn : n ≤ 10000) (hm : m ≤ 10000) (he : -10000 ≤ e ∧ e ≤ 10000) (he' : -10000 ≤ e' ∧ e' ≤ 10000) :
    Calls Tryz.prog 10 #[.agg #[.bool g, .slice A n c, .int .i64 e], .agg #[.bool g', .slice A' m c', .int .i64 e']] w fun x w' => ∃ v, x = .returned v ∧ RNumO w.heap.size w' v (Dc.refAddP ⟨g, l, e⟩ ⟨g', l', e'⟩) ∧ Below w.heap.size w w' := by
  have hln : l.length = n := by have := hr.1; rwa [i64s_len] at this
  have hlm : l'.length = m := by have := hr'.1; rwa [i64s_len] at this
  obtain ⟨w2, X, hw2, hX, hb2, hsz, hZZ, hcells⟩ := box_three 25 g A n c e g' A' m c' e' w
  have hb2' : Below w.heap.size w w2 := by rw [hX]; exact hb2
  obtain ⟨E, hE⟩ : ∃ E, min e e' = E := ⟨_, rfl⟩
  have hEb : -10000 ≤ E ∧ E ≤ 10000 := by omega
  have AL := align_any g A n c l e g' A' m c' l' e' E w2 (hr.on hb2') (hr'.on hb2') hn hm he he' hE
  have hp1 : (Dc.padL ⟨g, l, e⟩ (min e e')).length ≤ 40000 := by
    rw [Dc.padL]; split
    · simp
    · simp only [List.length_append, List.length_replicate]; omega
  have hp2 : (Dc.padL ⟨g', l', e'⟩ (min e e')).length ≤ 40000 := by
    rw [Dc.padL]; split
    · simp
    · simp only [List.length_append, List.length_replicate]; omega
  obtain ⟨N, hNN⟩ : ∃ N, Dc.alN ⟨g, l, e⟩ ⟨g', l', e'⟩ = N := ⟨_, rfl⟩
  have hN : N ≤ 40001 := by
    rw [← hNN, Dc.alN, Dc.alE]; simp only; omega
  have hN0 : 0 < N := by rw [← hNN, Dc.alN]; omega
  obtain ⟨a, ha⟩ : ∃ a, Dc.alX ⟨g, l, e⟩ ⟨g', l', e'⟩ = a := ⟨_, rfl⟩
  obtain ⟨b, hb⟩ : ∃ b, Dc.alY ⟨g, l, e⟩ ⟨g', l', e'⟩ = b := ⟨_, rfl⟩
  rw [hNN, ha, hb] at AL
  obtain ⟨K0, hK1, hK2, hda, hdb, _, _⟩ := Dc.al_facts (x := ⟨g, l, e⟩) (y := ⟨g', l', e'⟩) hd hd'
  rw [ha] at hK1 hda
  rw [hb] at hK2 hdb
  have hla : a.length = N := by
    have := (Dc.frontL_len (c := Dc.padL ⟨g, l, e⟩ (Dc.alE ⟨g, l, e⟩ ⟨g', l', e'⟩)) (n := Dc.alN ⟨g, l, e⟩ ⟨g', l', e'⟩) (by rw [Dc.alN]; omega))
    rw [← ha, Dc.alX, this, hNN]
  have hlb : b.length = N := by omega
  have AL : Calls Tryz.prog 25 #[.agg #[.bool g, .slice A n c, .int .i64 e], .agg #[.bool g', .slice A' m c', .int .i64 e']] w2 fun x w' => ∃ A1 c1 A2 c2, x = .returned (.tuple #[.slice A1 N c1, .slice A2 N c2, .int .i64 E]) ∧
      Reads w' w'.heap.size A1 N (i64s a) ∧ Reads w' w'.heap.size A2 N (i64s b) ∧ Below w2.heap.size w2 w' := by
    refine AL.mono ?_
    rintro x w' ⟨v1, v2, rfl, o1, o2, hb⟩
    obtain ⟨A1, c1, rfl, _, r1⟩ := own_slice o1
    obtain ⟨A2, c2, rfl, _, r2⟩ := own_slice o2
    exact ⟨A1, c1, A2, c2, rfl, r1, r2, hb⟩
  obtain ⟨R, hR⟩ : ∃ R, Dc.refAddP ⟨g, l, e⟩ ⟨g', l', e'⟩ = R := ⟨_, rfl⟩
  rw [hR]
  rw [Dc.refAddP, ha, hb, Dc.alE] at hR
  simp only [hE] at hR
  obtain ⟨same, hsame⟩ : ∃ s, (g == g') = s := ⟨_, rfl⟩
  obtain ⟨df, hdf⟩ : ∃ df, (!(g == g')) = df := ⟨_, rfl⟩
  have hds : df = !same := by rw [← hdf, ← hsame]
  obtain ⟨S, hS⟩ : ∃ S, Dc.sizeL a b = S := ⟨_, rfl⟩
  obtain ⟨sw, hsw⟩ : ∃ sw, (df && decide (S < 0)) = sw := ⟨_, rfl⟩
  have hRT : sw = true → R = Dc.norm g' (Dc.addL same b a).1 E := by
    intro h
    rw [h, Bool.and_eq_true, decide_eq_true_eq] at hsw
    rw [if_pos ⟨by rw [← hsw.1, ← hdf]; rfl, by rw [hS]; exact hsw.2⟩, hsame] at hR
    exact hR.symm
  have hRF : sw = false → R = Dc.norm g (Dc.addL same a b).1 E := by
    intro h
    rw [h] at hsw
    rw [if_neg (by
      rintro ⟨h1, h2⟩
      rw [hS] at h2
      have h3 : df = true := by rw [← hdf]; exact h1
      rw [h3] at hsw; simp at hsw; omega), hsame] at hR
    exact hR.symm
  have AL := Lib.hid AL
  have HRT := Lib.hid (And.intro hRT hRF)
  have HW2 := Lib.hid hw2
  have HX := Lib.hid hX
  have HC := Lib.hid hcells
  have HB := Lib.hid hb2
  have HSZ := Lib.hid hsz
  have HZZ := Lib.hid hZZ
  have HDF := Lib.hid hdf
  have HDS := Lib.hid hds
  have HS := Lib.hid hS
  have HSW := Lib.hid hsw
  have HLA := Lib.hid (And.intro hla hlb)
  have HD := Lib.hid (And.intro hda hdb)
  have hd2 : Below (X + 3) w2 w2 := Below.refl _ _
  obtain ⟨⟨p0, p1, p2⟩, ⟨q0, q1, q2⟩, ⟨z0, z1, z2⟩, f0, f1, f2⟩ := hcells w2 hd2
  clear hr hr' hd hd' hn hm he he' hln hlm hw2 hX hcells hsz hZZ hb2 hb2' hE hp1 hp2 hNN ha hb hK1 hK2 hda hdb hla hlb hR hdf hds hS hsw hRT hRF hsame
  go_enter Tryz.func10, Tryz.ntmps10
  go_upto_region 1 with fail
  rw [HW2.out, HX.out]
  go_wp2_with fail
  refine (AL.out).mono ?_
  rintro x w3 ⟨A1, c1, A2, c2, rfl, hr1, hr2, hb3⟩
  have HR1 := Lib.hid hr1
  have HR2 := Lib.hid hr2
  have hb3' : Below (X + 3) w2 w3 := by rw [← HSZ.out]; exact hb3
  clear hr1 hr2 p0 p1 p2 q0 q1 q2 z0 z1 z2 f0 f1 f2
  obtain ⟨⟨p0, p1, p2⟩, ⟨q0, q1, q2⟩, ⟨z0, z1, z2⟩, f0, f1, f2⟩ := HC.out _ hb3'
  go_upto_region 4 with fail
  rw [HDF.out]
  go_cut [34] (fun c wx => c = .bool sw ∧ Below w3.heap.size w3 wx)
  case first =>
    cases df with
    | false =>
      have hsf : sw = false := by rw [← HSW.out]; rfl
      have HSF := Lib.hid hsf
      clear hsf
      go_wp2_with fail
      go_meet
      exact ⟨by rw [HSF.out], Below.refl _ _⟩
    | true =>
      have SZ := Lib.hid (size_any A1 A2 N c1 c2 a b w3 HR1.out HR2.out (by omega))
      have hst : decide (S < 0) = sw := by rw [← HSW.out]; rfl
      have HST := Lib.hid hst
      clear hst
      go_wp2_with fail
      refine (SZ.out).mono ?_
      rintro x w4 ⟨rfl, hb4⟩
      rw [HS.out]
      go_wp2_with fail
      go_meet
      exact ⟨by rw [← HST.out], hb4⟩
  case rest =>
    obtain ⟨rfl, hb4⟩ := hcut
    obtain ⟨w4, hw4⟩ : ∃ W, W = wc := ⟨_, rfl⟩
    subst hw4
    have hb4' : Below (X + 3) w2 w4 := hb3'.trans (hb4.mono (by have := hb3'.size; have := HSZ.out; omega))
    have HR1' := Lib.hid (HR1.out.on hb4)
    have HR2' := Lib.hid (HR2.out.on hb4)
    clear p0 p1 p2 q0 q1 q2 z0 z1 z2 f0 f1 f2
    obtain ⟨⟨p0, p1, p2⟩, ⟨q0, q1, q2⟩, ⟨z0, z1, z2⟩, f0, f1, f2⟩ := HC.out _ hb4'
    go_upto_if 34 with fail
    go_cut [5, 6, 8] (fun t5 t6 t8 wx => ∃ (g1 : Bool) (B1 : Option Addr) (d1 : Nat) (B2 : Option Addr) (d2 : Nat) (a1 b1 : List Nat), t5 = .slice B1 N d1 ∧ t6 = .slice B2 N d2 ∧ t8 = .bool g1 ∧ Reads w4 w4.heap.size B1 N (i64s a1) ∧ Reads w4 w4.heap.size B2 N (i64s b1) ∧
      a1.length = N ∧ b1.length = N ∧ Dc.Digs a1 ∧ Dc.Digs b1 ∧ R = Dc.norm g1 (Dc.addL same a1 b1).1 E ∧ wx = w4)
    case first =>
      cases sw with
      | false =>
        have HRE := Lib.hid (HRT.out.2 rfl)
        go_wp2_with fail
        go_meet
        exact ⟨g, A1, c1, A2, c2, a, b, rfl, rfl, rfl, HR1'.out, HR2'.out, HLA.out.1, HLA.out.2, HD.out.1, HD.out.2, HRE.out, rfl⟩
      | true =>
        have HRE := Lib.hid (HRT.out.1 rfl)
        go_wp2_with fail
        go_meet
        exact ⟨g', A2, c2, A1, c1, b, a, rfl, rfl, rfl, HR2'.out, HR1'.out, HLA.out.2, HLA.out.1, HD.out.2, HD.out.1, HRE.out, rfl⟩
    case rest =>
      obtain ⟨g1, B1, d1, B2, d2, a1, b1, rfl, rfl, rfl, hr1, hr2, hl1, hl2, hd1, hd2', hRR, hw5⟩ := hcut
      subst hw5
      obtain ⟨w5, hw5⟩ : ∃ W, W = wc := ⟨_, rfl⟩
      subst hw5
      obtain ⟨Z, hZ⟩ : ∃ Z, i64s (List.replicate N 0) = Z := ⟨_, rfl⟩
      have hmk := fun W => make_ints N (by omega) W
      rw [hZ] at hmk
      obtain ⟨H, hH⟩ : ∃ H, w5.heap.size = H := ⟨_, rfl⟩
      rw [hH] at hr1 hr2
      have hXH : X + 3 ≤ H := by have := hb4'.size; have := HSZ.out; omega
      have HZ := Lib.hid hZ
      have HRA := Lib.hid hr1
      have HRB := Lib.hid hr2
      have HL := Lib.hid (And.intro hl1 hl2)
      have HDD := Lib.hid (And.intro hd1 hd2')
      have HRR := Lib.hid hRR
      have HHH := Lib.hid hH
      clear hZ hr1 hr2 hl1 hl2 hd1 hd2' hRR hH HR1 HR2 HR1' HR2' HRT
      go_upto_region 8 with fail
      rw [HHH.out]
      have hH6 := heap_alloc_new w5 (.cells Z.toArray 3)
      have hb6 : Below H w5 (w5.alloc (.cells Z.toArray 3)) := (Below.refl _ _).alloc (by rw [HHH.out]; exact Nat.le_refl _) _
      rw [HHH.out] at hH6
      obtain ⟨w6, hw6⟩ : ∃ w6, w5.alloc (.cells Z.toArray 3) = w6 := ⟨_, rfl⟩
      rw [hw6] at hH6 hb6
      rw [hw6]
      have hZl : Z.length = N := by rw [← HZ.out, i64s_len, List.length_replicate]
      have hrow6 : Row w6 H 3 N (i64s (List.replicate N 0 ++ [])) := by
        rw [List.append_nil, HZ.out]
        exact ⟨Z.toArray, hH6, by simp [hZl], by rw [hZl]; exact Nat.le_refl _, by simp⟩
      have HR6 := Lib.hid hrow6
      clear hw6 hH6 hZl hrow6 p0 p1 p2 q0 q1 q2 z0 z1 z2 f0 f1 f2 hmk
      have hw7 : IntKind.i64.wrap ((N : Int) - 1) = (N : Int) - 1 := IntWalk.i64_in _ (by omega)
      go_wp2_with fail
      go_loopg [11, 12, 13] N (fun f c i _ wx => ∃ (q : Nat) (cy j : Int), c = .int .i64 cy ∧ i = .int .i64 j ∧ j = (q : Int) - 1 ∧ q ≤ N ∧ q ≤ f ∧ (Dc.addL same (a1.drop q) (b1.drop q)).2 = cy ∧ Row wx H 3 N (i64s (List.replicate q 0 ++ (Dc.addL same (a1.drop q) (b1.drop q)).1)) ∧ Below H w5 wx)
      case atStart =>
        have e1' : a1.drop N = [] := List.drop_eq_nil_of_le (by rw [HL.out.1]; exact Nat.le_refl _)
        have e2' : b1.drop N = [] := List.drop_eq_nil_of_le (by rw [HL.out.2]; exact Nat.le_refl _)
        have e3' : Dc.addL same ([] : List Nat) [] = ([], 0) := by simp [Dc.addL]
        exact ⟨N, 0, (N : Int) - 1, rfl, rfl, rfl, Nat.le_refl _, Nat.le_refl _, by rw [e1', e2', e3'], by rw [e1', e2', e3']; exact HR6.out, hb6⟩
      case round =>
        obtain ⟨q, cy, j, rfl, rfl, hj, hqN, hqf, hcy, hrow, hbx⟩ := hrel
        obtain ⟨RS, hRS⟩ : ∃ RS, (Dc.addL same (a1.drop q) (b1.drop q)).1 = RS := ⟨_, rfl⟩
        rw [hRS] at hrow
        have HCY := Lib.hid hcy
        have HRS := Lib.hid hRS
        have HRW := Lib.hid hrow
        clear hcy hRS
        have hbX : Below (X + 3) w2 wr := hb4'.trans (hbx.mono hXH)
        cases q with
        | zero =>
          obtain rfl : j = -1 := by omega
          have hok := Dc.addL_ok (same := same) (a := a1) (b := b1) HDD.out.1 HDD.out.2 (by rw [HL.out.1, HL.out.2])
          have hrs := HRS.out
          rw [List.drop_zero, List.drop_zero] at hrs
          have hrl : RS.length = N := by rw [← hrs, hok.2.2, HL.out.1]
          have hrd := hrow.reads
          rw [List.replicate_zero, List.nil_append, i64s_len, hrl] at hrd
          have NO : Calls Tryz.prog 27 #[.bool g1, .slice (some ⟨H, 0, none⟩) N N, .int .i64 E] wr fun x w' => ∃ A' cA nA, x = .returned (.agg #[.bool R.neg, .slice A' nA cA, .int .i64 R.e]) ∧ RNumO wr.heap.size w' (.agg #[.bool R.neg, .slice A' nA cA, .int .i64 R.e]) R ∧ Below wr.heap.size wr w' := by
            refine (refnorm_any g1 (some ⟨H, 0, none⟩) N N RS E wr hrd (by omega) (by omega)).mono ?_
            rintro x w' ⟨v, rfl, hv, hb⟩
            rw [← hrs, ← HRR.out] at hv
            obtain ⟨A', cA, rfl, ho⟩ := hv
            exact ⟨A', cA, R.c.length, rfl, ⟨A', cA, rfl, ho⟩, hb⟩
          obtain ⟨gr, hgr⟩ : ∃ z, R.neg = z := ⟨_, rfl⟩
          obtain ⟨er, her⟩ : ∃ z, R.e = z := ⟨_, rfl⟩
          rw [hgr, her] at NO
          have NO := Lib.hid NO
          clear hrow hok hrs hrl hrd hgr her hj
          go_wp2_with fail
          refine (NO.out).mono ?_
          rintro x w7 ⟨A9, c9, n9, rfl, hr7, hb7⟩
          have hsz6 : X + 3 ≤ wr.heap.size := by have := hbX.size; rw [HSZ.out] at this; exact this
          have hb27 : Below (X + 3) w2 w7 := hbX.trans (hb7.mono hsz6)
          obtain ⟨_, _, ⟨z0, z1, z2⟩, f0, f1, f2⟩ := HC.out _ hb27
          have HR7 := Lib.hid hr7
          have HB27 := Lib.hid hb27
          clear hr7 hb27 hb7
          go_wp2_with fail
          refine bodyPost_ret (v := .agg #[.bool gr, .slice A9 n9 c9, .int .i64 er]) (by simp [results, Tryz.results10, go_sem, z0, z1, z2]) rfl ?_
          refine ⟨_, rfl, ?_, ?_⟩
          · refine RNumO.less (RNumO.beside HR7.out (X := X + 2) (by omega) fun k hk => ?_) (by rw [HX.out]; omega)
            rw [Below.heap_setCell _ _ _ _ hk, Below.heap_setCell _ _ _ _ hk, Below.heap_setCell _ _ _ _ hk]
          · rw [HX.out]
            have hbE := (HB.out.trans (HB27.out.mono (by omega)))
            exact ((hbE.setCell (p := ⟨X + 2, 0, none⟩) (by show X ≤ X + 2; omega) _).setCell (p := ⟨X + 2, 1, none⟩) (by show X ≤ X + 2; omega) _).setCell (p := ⟨X + 2, 2, none⟩) (by show X ≤ X + 2; omega) _
        | succ r =>
          obtain ⟨f, rfl⟩ : ∃ f, gk = f + 1 := ⟨gk - 1, by omega⟩
          obtain rfl : j = (r : Int) := by omega
          have hr0 : (0 : Int) ≤ (r : Int) := by omega
          have hrN : (r : Int) < (N : Int) := by omega
          have hrn : r < N := by omega
          obtain ⟨b1', off1, u1, rfl, _, hu1, hcell1⟩ := (HRA.out.below hbx).at_ (k := r) hrn
          obtain ⟨x, hx, rfl⟩ := i64_at hu1
          obtain ⟨b2', off2, u2, rfl, _, hu2, hcell2⟩ := (HRB.out.below hbx).at_ (k := r) hrn
          obtain ⟨y, hy, rfl⟩ := i64_at hu2
          have hx10 := HDD.out.1 x (List.mem_of_getElem? hx)
          have hy10 := HDD.out.2 y (List.mem_of_getElem? hy)
          have hokc := (Dc.addL_ok (same := same) (a := a1.drop (r + 1)) (b := b1.drop (r + 1)) (fun z hz => HDD.out.1 z (List.mem_of_mem_drop hz)) (fun z hz => HDD.out.2 z (List.mem_of_mem_drop hz)) (by rw [List.length_drop, List.length_drop, HL.out.1, HL.out.2])).1
          rw [HCY.out] at hokc
          have hstep := Dc.addL_cons (same := same) hx hy
          rw [HCY.out, HRS.out] at hstep
          obtain ⟨hd0, hc0⟩ := Dc.addStep_ref hx10 hy10 hokc
          obtain ⟨dd, hdd⟩ : ∃ dd, (Dc.addStep same x y cy).1 = dd := ⟨_, rfl⟩
          obtain ⟨cc, hcc⟩ : ∃ cc, (Dc.addStep same x y cy).2 = cc := ⟨_, rfl⟩
          rw [hdd] at hd0 hstep
          rw [hcc] at hc0 hstep
          have hcb : -1 ≤ cy ∧ cy ≤ 1 := by
            rw [Dc.okC] at hokc
            split at hokc <;> omega
          obtain ⟨s, hs⟩ : ∃ s : Int, (if same = true then (x : Int) + y + cy else (x : Int) - y + cy) = s := ⟨_, rfl⟩
          rw [hs] at hd0 hc0
          have hset : (List.replicate (r + 1) 0 ++ RS).set r dd = List.replicate r 0 ++ dd :: RS := by
            rw [List.replicate_succ', List.append_assoc, List.set_append_right _ _ (by simp), List.length_replicate, Nat.sub_self]; rfl
          have hlen : r < (i64s (List.replicate (r + 1) 0 ++ RS)).length := by rw [i64s_len]; simp; omega
          have hg0 : (i64s (List.replicate (r + 1) 0 ++ RS))[r]? = some (.int .i64 0) := by
            have : (List.replicate (r + 1) 0 ++ RS)[r]? = some 0 := by
              rw [List.getElem?_append_left (by simp), List.getElem?_replicate, if_pos (by omega)]
            exact i64s_get this
          have hrc := hrow.at_ hg0
          have hrf := hrow.free r
          have fin : ∀ W : World, W.heap = wr.heap → Row (W.setCell ⟨H, r, none⟩ (.int .i64 (dd : Int))) H 3 N (i64s (List.replicate r 0 ++ (Dc.addL same (a1.drop r) (b1.drop r)).1)) := by
            intro W hW
            have h1 : Row W H 3 N (i64s (List.replicate (r + 1) 0 ++ RS)) := by
              obtain ⟨cur, hg, hr⟩ := HRW.out
              exact ⟨cur, by rw [hW]; exact hg, hr⟩
            have h2 := h1.set hlen (.int .i64 (dd : Int))
            rw [← i64s_set', hset] at h2
            rw [hstep]
            exact h2
          have hst2 : (Dc.addL same (a1.drop r) (b1.drop r)).2 = cc := by rw [hstep]
          have FIN := Lib.hid fin
          have HST2 := Lib.hid hst2
          have HD0 := Lib.hid hd0
          have HC0 := Lib.hid hc0
          have HSS := Lib.hid hs
          clear hrow hokc hstep hd0 hc0 hdd hcc hset hlen hg0 hx hy hu1 hu2 hj fin hst2 hs
          have hwx1 : IntKind.i64.wrap ((x : Int) + (y : Int)) = (x : Int) + (y : Int) := IntWalk.i64_in _ (by omega)
          have hwx2 : IntKind.i64.wrap ((x : Int) - (y : Int)) = (x : Int) - (y : Int) := IntWalk.i64_in _ (by omega)
          have hwx3 : IntKind.i64.wrap ((x : Int) + (y : Int) + cy) = (x : Int) + (y : Int) + cy := IntWalk.i64_in _ (by omega)
          have hwx4 : IntKind.i64.wrap ((x : Int) - (y : Int) + cy) = (x : Int) - (y : Int) + cy := IntWalk.i64_in _ (by omega)
          have hwr : IntKind.i64.wrap ((r : Int) - 1) = (r : Int) - 1 := IntWalk.i64_in _ (by omega)
          cases same with
          | true =>
            obtain rfl : df = false := HDS.out
            have hsx : (x : Int) + (y : Int) + cy = s := HSS.out
            go_wp2_with fail
            go_quiet (fail)
            go_upto_region 16 with fail
            by_cases hs9 : 9 < s
            · have hd1 : (dd : Int) = s - 10 := by have := HD0.out; rw [if_pos hs9] at this; exact this
              have hc1 : cc = 1 := by have := HC0.out; rw [if_pos hs9] at this; exact this
              have hwm : IntKind.i64.wrap (s - 10) = (dd : Int) := by rw [hd1]; exact IntWalk.i64_in _ (by omega)
              have HC1 := Lib.hid hc1
              clear hd1 hc1
              go_wp2_with fail
              go_roundg f
              case measure => omega
              case rel => exact ⟨r, 1, (r : Int) - 1, rfl, rfl, rfl, by omega, by omega, by rw [HST2.out, HC1.out], FIN.out _ rfl, (below_drewN hbx _).setCell (p := ⟨H, r, none⟩) (Nat.le_refl _) _⟩
            · by_cases hs0 : s < 0
              · have hd1 : (dd : Int) = s + 10 := by have := HD0.out; rw [if_neg hs9, if_pos hs0] at this; exact this
                have hc1 : cc = -1 := by have := HC0.out; rw [if_neg hs9, if_pos hs0] at this; exact this
                have hwm : IntKind.i64.wrap (s + 10) = (dd : Int) := by rw [hd1]; exact IntWalk.i64_in _ (by omega)
                have HC1 := Lib.hid hc1
                clear hd1 hc1
                go_wp2_with fail
                go_roundg f
                case measure => omega
                case rel => exact ⟨r, -1, (r : Int) - 1, rfl, rfl, rfl, by omega, by omega, by rw [HST2.out, HC1.out], FIN.out _ rfl, (below_drewN hbx _).setCell (p := ⟨H, r, none⟩) (Nat.le_refl _) _⟩
              · have hd1 : (dd : Int) = s := by have := HD0.out; rw [if_neg hs9, if_neg hs0] at this; exact this
                have hc1 : cc = 0 := by have := HC0.out; rw [if_neg hs9, if_neg hs0] at this; exact this
                have HC1 := Lib.hid hc1
                clear hc1
                obtain rfl : s = (dd : Int) := hd1.symm
                go_wp2_with fail
                go_roundg f
                case measure => omega
                case rel => exact ⟨r, 0, (r : Int) - 1, rfl, rfl, rfl, by omega, by omega, by rw [HST2.out, HC1.out], FIN.out _ rfl, (below_drewN hbx _).setCell (p := ⟨H, r, none⟩) (Nat.le_refl _) _⟩
          | false =>
            obtain rfl : df = true := HDS.out
            have hsx : (x : Int) - (y : Int) + cy = s := HSS.out
            go_wp2_with fail
            go_quiet (fail)
            go_wp2_with fail
            go_quiet (fail)
            go_upto_region 16 with fail
            by_cases hs9 : 9 < s
            · have hd1 : (dd : Int) = s - 10 := by have := HD0.out; rw [if_pos hs9] at this; exact this
              have hc1 : cc = 1 := by have := HC0.out; rw [if_pos hs9] at this; exact this
              have hwm : IntKind.i64.wrap (s - 10) = (dd : Int) := by rw [hd1]; exact IntWalk.i64_in _ (by omega)
              have HC1 := Lib.hid hc1
              clear hd1 hc1
              go_wp2_with fail
              go_roundg f
              case measure => omega
              case rel => exact ⟨r, 1, (r : Int) - 1, rfl, rfl, rfl, by omega, by omega, by rw [HST2.out, HC1.out], FIN.out _ rfl, (below_drewN hbx _).setCell (p := ⟨H, r, none⟩) (Nat.le_refl _) _⟩
            · by_cases hs0 : s < 0
              · have hd1 : (dd : Int) = s + 10 := by have := HD0.out; rw [if_neg hs9, if_pos hs0] at this; exact this
                have hc1 : cc = -1 := by have := HC0.out; rw [if_neg hs9, if_pos hs0] at this; exact this
                have hwm : IntKind.i64.wrap (s + 10) = (dd : Int) := by rw [hd1]; exact IntWalk.i64_in _ (by omega)
                have HC1 := Lib.hid hc1
                clear hd1 hc1
                go_wp2_with fail
                go_roundg f
                case measure => omega
                case rel => exact ⟨r, -1, (r : Int) - 1, rfl, rfl, rfl, by omega, by omega, by rw [HST2.out, HC1.out], FIN.out _ rfl, (below_drewN hbx _).setCell (p := ⟨H, r, none⟩) (Nat.le_refl _) _⟩
              · have hd1 : (dd : Int) = s := by have := HD0.out; rw [if_neg hs9, if_neg hs0] at this; exact this
                have hc1 : cc = 0 := by have := HC0.out; rw [if_neg hs9, if_neg hs0] at this; exact this
                have HC1 := Lib.hid hc1
                clear hc1
                obtain rfl : s = (dd : Int) := hd1.symm
                go_wp2_with fail
                go_roundg f
                case measure => omega
                case rel => exact ⟨r, 0, (r : Int) - 1, rfl, rfl, rfl, by omega, by omega, by rw [HST2.out, HC1.out], FIN.out _ rfl, (below_drewN hbx _).setCell (p := ⟨H, r, none⟩) (Nat.le_refl _) _⟩
end Go.Proofs.YtmgafnflkfbckaaGreatDoor

namespace Go.Proofs.YtmgafnflkfbckaaGreatDoor
open Go.RowKit Go.Lib

set_option maxHeartbeats 2000000 in
set_option maxRecDepth 100000 in
theorem refmul_any (g : Bool) (A : Option Addr) (n c : Nat) (l : List Nat) (e : Int) (g' : Bool) (A' : Option Addr) (m c' : Nat) (l' : List Nat) (e' : Int) (w : World)
    (hr : Reads w w.heap.size A n (i64s l)) (hr' : Reads w w.heap.size A' m (i64s l')) (hd : Dc.Digs l) (hd' : Dc.Digs l') (hn : n ≤ 10000) (hm : m ≤ 10000) (he : -10000 ≤ e ∧ e ≤ 10000) (he' : -10000 ≤ e' ∧ e' ≤ 10000) :
    Calls Tryz.prog 11 #[.agg #[.bool g, .slice A n c, .int .i64 e], .agg #[.bool g', .slice A' m c', .int .i64 e']] w fun x w' => ∃ v, x = .returned v ∧ RNumO w.heap.size w' v (Dc.prodP ⟨g, l, e⟩ ⟨g', l', e'⟩) ∧ Below w.heap.size w w' := by
  have hln : l.length = n := by have := hr.1; rwa [i64s_len] at this
  have hlm : l'.length = m := by have := hr'.1; rwa [i64s_len] at this
  obtain ⟨R, hR⟩ : ∃ R, Dc.prodP ⟨g, l, e⟩ ⟨g', l', e'⟩ = R := ⟨_, rfl⟩
  rw [hR]
  obtain ⟨w2, X, hw2, hX, hb2, hsz, hZZ, hcells⟩ := box_three 25 g A n c e g' A' m c' e' w
  have hrX : Reads w X A n (i64s l) := hX ▸ hr
  have hrX' : Reads w X A' m (i64s l') := hX ▸ hr'
  have hrY : Reads w2 X A n (i64s l) := hrX.below hb2
  have hrY' : Reads w2 X A' m (i64s l') := hrX'.below hb2
  have HRY := Lib.hid (And.intro hrY hrY')
  have HW2 := Lib.hid hw2
  have HX := Lib.hid hX
  have HC := Lib.hid hcells
  have HSZ := Lib.hid hsz
  have HB := Lib.hid hb2
  have HLN := Lib.hid (And.intro hln hlm)
  have HD := Lib.hid (And.intro hd hd')
  have HR := Lib.hid hR
  have hd2 : Below (X + 3) w2 w2 := Below.refl _ _
  obtain ⟨⟨p0, p1, p2⟩, ⟨q0, q1, q2⟩, ⟨z0, z1, z2⟩, f0, f1, f2⟩ := hcells w2 hd2
  clear hw2 hX hcells hr hr' hln hlm hd hd' hR hrX hrX' hrY hrY' hZZ hb2
  obtain ⟨T, hT⟩ : ∃ T, n + m = T := ⟨_, rfl⟩
  have hTi : (n : Int) + (m : Int) = (T : Int) := by omega
  have hwT : IntKind.i64.wrap ((n : Int) + (m : Int)) = (T : Int) := by rw [hTi]; exact IntWalk.i64_in _ (by omega)
  have hmk := fun W => make_ints T (by omega) W
  have HT := Lib.hid hT
  obtain ⟨Z, hZ⟩ : ∃ Z, i64s (List.replicate T 0) = Z := ⟨_, rfl⟩
  rw [hZ] at hmk
  have HZ := Lib.hid hZ
  clear hT hZ
  go_enter Tryz.func11, Tryz.ntmps11
  go_upto_region 1 with fail
  rw [HW2.out, HX.out]
  go_upto_region 2 with fail
  rw [show X + 1 + 1 = X + 2 from rfl]
  have hb3 : Below (X + 3) w2 (w2.alloc (.cells Z.toArray 3)) := hd2.alloc (by omega) _
  have hO := heap_alloc_new w2 (.cells Z.toArray 3)
  rw [hsz] at hO
  obtain ⟨w3, hw3⟩ : ∃ w3, w2.alloc (.cells Z.toArray 3) = w3 := ⟨_, rfl⟩
  rw [hw3] at hb3 hO
  rw [hw3]
  try rw [hsz]
  have hZl : Z.length = T := by rw [← HZ.out, i64s_len, List.length_replicate]
  have hrow3 : Row w3 (X + 3) 3 T (i64s (List.replicate T 0)) := by
    rw [HZ.out]
    exact ⟨Z.toArray, hO, by simp [hZl], by omega, by simp⟩
  have HROW := Lib.hid hrow3
  clear hw3 hO hZl hrow3 p0 p1 p2 q0 q1 q2 z0 z1 z2 f0 f1 f2 hmk
  obtain ⟨⟨p0, p1, p2⟩, ⟨q0, q1, q2⟩, _⟩ := HC.out _ hb3
  have hwn : IntKind.i64.wrap ((n : Int) - 1) = (n : Int) - 1 := IntWalk.i64_in _ (by omega)
  have hwm : IntKind.i64.wrap ((m : Int) - 1) = (m : Int) - 1 := IntWalk.i64_in _ (by omega)
  go_upto_block 0 with fail
  go_cut [6, 7, 8, 9] (fun _ _ _ _ wx => ∃ L, Row wx (X + 3) 3 T (i64s L) ∧ L.length = T ∧ Dc.num L = Dc.num l * Dc.num l' ∧ Dc.Digs L ∧ Below (X + 3) w2 wx)
  case first =>
    go_wp2_with fail
    clear p0 p1 p2 q0 q1 q2
    go_loopg [6, 7, 8, 9] n (fun f i _ _ _ wx => ∃ (ii : Nat) (I : Int) (L : List Nat), i = .int .i64 I ∧ I + 1 = (ii : Int) ∧ ii ≤ n ∧ ii ≤ f ∧ L.length = T ∧ Dc.num L = Dc.num (l.drop ii) * Dc.num l' ∧ Dc.Digs L ∧ (∀ j v, L[j]? = some v → j < ii → v = 0) ∧ Row wx (X + 3) 3 T (i64s L) ∧ Below (X + 3) w2 wx)
    case atStart =>
      refine ⟨n, (n : Int) - 1, List.replicate T 0, rfl, by omega, Nat.le_refl _, Nat.le_refl _, by simp, ?_, ?_, ?_, HROW.out, hb3⟩
      · rw [Dc.num_zeros, List.drop_eq_nil_of_le (by rw [HLN.out.1]; exact Nat.le_refl _), Dc.num, Nat.zero_mul]
      · intro v hv; rw [(List.mem_replicate.1 hv).2]; omega
      · intro j v hv _; exact (List.mem_replicate.1 (List.mem_of_getElem? hv)).2
    case round =>
      obtain ⟨ii, I, L, rfl, hI, hii, hf1, hLl, hLn, hLd, hLz, hrow, hbx⟩ := hrel
      rcases Nat.eq_zero_or_pos ii with h0 | h0
      · obtain rfl : I = -1 := by omega
        subst h0
        have HLL := Lib.hid (And.intro hLl (And.intro hLn hLd))
        have HRW := Lib.hid hrow
        clear hLl hLn hLd hLz hrow
        go_wp2_with fail
        go_meet
        obtain ⟨h1, h2, h3⟩ := HLL.out
        exact ⟨L, HRW.out, h1, by rw [h2]; rfl, h3, hbx⟩
      · obtain ⟨q, rfl⟩ : ∃ q, ii = q + 1 := ⟨ii - 1, by omega⟩
        obtain rfl : I = (q : Int) := by omega
        obtain ⟨f, rfl⟩ : ∃ f, gk = f + 1 := ⟨gk - 1, by omega⟩
        obtain ⟨⟨p0, p1, p2⟩, ⟨q0, q1, q2⟩, _⟩ := HC.out _ hbx
        have hq0 : (0 : Int) ≤ (q : Int) := by omega
        have hqn : (q : Int) < (n : Int) := by omega
        obtain ⟨x, hx⟩ : ∃ x, l[q]? = some x := ⟨_, List.getElem?_eq_getElem (by rw [HLN.out.1]; omega)⟩
        have hx10 : x < 10 := HD.out.1 x (List.mem_of_getElem? hx)
        have HX0 := Lib.hid hx
        have HLL := Lib.hid (And.intro hLl (And.intro hLn (And.intro hLd hLz)))
        have HRW := Lib.hid hrow
        clear hLl hLn hLd hLz hrow hx hI
        go_wp2_with fail
        clear p0 p1 p2 q0 q1 q2
        go_loopg [7, 8, 9] m (fun f cv k _ wx => ∃ (kk : Nat) (K : Int) (cy : Nat) (L : List Nat), cv = .int .i64 (cy : Int) ∧ k = .int .i64 K ∧ K + 1 = (kk : Int) ∧ kk ≤ m ∧ kk ≤ f ∧ cy ≤ 9 ∧ L.length = T ∧ Dc.num L + cy * 10 ^ (l.length + l'.length - 1 - (q + kk)) = Dc.rowsAt l l' q kk ∧ Dc.Digs L ∧ (∀ j v, L[j]? = some v → j ≤ q → v = 0) ∧ Row wx (X + 3) 3 T (i64s L) ∧ Below (X + 3) w2 wx)
        case atStart =>
          obtain ⟨h1, h2, h3, h4⟩ := HLL.out
          have hrb : Dc.num L = Dc.rowsAt l l' q m := by
            have := Dc.rows_begin (a := l) (b := l') (i := q)
            rw [HLN.out.2] at this
            rw [h2, this]
          exact ⟨m, (m : Int) - 1, 0, L, rfl, rfl, by omega, Nat.le_refl _, Nat.le_refl _, by omega, h1, by rw [Nat.zero_mul, Nat.add_zero]; exact hrb, h3, fun j v hv hj => h4 j v hv (by omega), HRW.out, hbx⟩
        case round =>
          obtain ⟨kk, K, cy, L2, rfl, rfl, hK, hkm, hf2, hcy, hLl, hLn, hLd, hLz, hrow, hby⟩ := hrel
          rcases Nat.eq_zero_or_pos kk with h0 | h0
          · obtain rfl : K = -1 := by omega
            subst h0
            obtain ⟨v, hv⟩ : ∃ v, L2[q]? = some v := ⟨_, List.getElem?_eq_getElem (by have := HT.out; omega)⟩
            have hv0 : v = 0 := hLz q v hv (Nat.le_refl _)
            subst hv0
            have hce := Dc.car_end (a := l) (b := l') (by rw [hLl, HLN.out.1, HLN.out.2, HT.out]) HX0.out hv hLn
            have hcv := hrow.at_ (i64s_get hv)
            have hfv := hrow.free q
            have hqT : (q : Int) < (T : Int) := by have := HT.out; omega
            have hqlen : q < (i64s L2).length := by rw [i64s_len, hLl]; have := HT.out; omega
            have hnew := hrow.set hqlen (.int .i64 (cy : Int))
            rw [← i64s_set'] at hnew
            rw [Nat.zero_add] at hce
            have hww : IntKind.i64.wrap (0 + (cy : Int)) = (cy : Int) := by rw [Int.zero_add]; exact IntWalk.i64_in _ (by omega)
            have hwq : IntKind.i64.wrap ((q : Int) - 1) = (q : Int) - 1 := IntWalk.i64_in _ (by omega)
            have HNEW := Lib.hid hnew
            have HCE := Lib.hid hce
            have HLL2 := Lib.hid (And.intro hLl (And.intro hLd hLz))
            clear hLl hLn hLd hLz hrow hK hv hce hqlen hnew
            go_wp2_with fail
            go_roundg f
            case measure => omega
            case rel =>
              obtain ⟨h1, h3, h4⟩ := HLL2.out
              refine ⟨q, (q : Int) - 1, L2.set q cy, rfl, by omega, by omega, by omega, by rw [List.length_set]; exact h1, HCE.out, ?_, ?_, HNEW.out, hby.setCell (p := ⟨X + 3, q, none⟩) (Nat.le_refl _) _⟩
              · intro u hu
                rcases List.mem_or_eq_of_mem_set hu with hu | hu
                · exact h3 u hu
                · rw [hu]; omega
              · intro j u hu hj
                rw [List.getElem?_set_ne (by omega)] at hu
                exact h4 j u hu (by omega)
          · obtain ⟨r, rfl⟩ : ∃ r, kk = r + 1 := ⟨kk - 1, by omega⟩
            obtain rfl : K = (r : Int) := by omega
            obtain ⟨f3, rfl⟩ : ∃ f3, gk = f3 + 1 := ⟨gk - 1, by omega⟩
            obtain ⟨⟨p0, p1, p2⟩, ⟨q0, q1, q2⟩, _⟩ := HC.out _ hby
            have hr0 : (0 : Int) ≤ (r : Int) := by omega
            have hrm : (r : Int) < (m : Int) := by omega
            have hrn : r < m := by omega
            have hqnn : q < n := by omega
            obtain ⟨y, hy⟩ : ∃ y, l'[r]? = some y := ⟨_, List.getElem?_eq_getElem (by rw [HLN.out.2]; omega)⟩
            have hy10 : y < 10 := HD.out.2 y (List.mem_of_getElem? hy)
            obtain ⟨p, hp⟩ : ∃ p, q + r + 1 = p := ⟨_, rfl⟩
            obtain ⟨v, hv⟩ : ∃ v, L2[p]? = some v := ⟨_, List.getElem?_eq_getElem (by have := HT.out; omega)⟩
            have hv10 : v < 10 := hLd v (List.mem_of_getElem? hv)
            have hcs := Dc.car_step (a := l) (b := l') (c := cy) (k := r) (by rw [hLl, HLN.out.1, HLN.out.2, HT.out]) HX0.out hy (by rw [hp]; exact hv) hLn
            rw [hp] at hcs
            obtain ⟨b1', off1, u1, rfl, _, hu1, hcell1⟩ := (HRY.out.1.below (hby.mono (by omega))).at_ (k := q) hqnn
            obtain ⟨x', hx', rfl⟩ := i64_at hu1
            obtain rfl : x' = x := by have := HX0.out; rw [hx'] at this; exact Option.some.inj this
            obtain ⟨b2', off2, u2, rfl, _, hu2, hcell2⟩ := (HRY.out.2.below (hby.mono (by omega))).at_ (k := r) hrn
            obtain ⟨y', hy', rfl⟩ := i64_at hu2
            obtain rfl : y' = y := by rw [hy'] at hy; exact Option.some.inj hy
            have hcv := hrow.at_ (i64s_get hv)
            have hfv := hrow.free p
            obtain ⟨s, hs⟩ : ∃ s, q + r = s := ⟨_, rfl⟩
            obtain ⟨z, hz⟩ : ∃ z, x' * y' = z := ⟨_, rfl⟩
            have hz81 : z ≤ 81 := by rw [← hz]; exact Nat.le_trans (Nat.mul_le_mul_right y' (show x' ≤ 9 by omega)) (by omega)
            obtain ⟨u, hu⟩ : ∃ u, v + z + cy = u := ⟨_, rfl⟩
            have hw1 : IntKind.i64.wrap ((q : Int) + (r : Int)) = (s : Int) := by rw [← hs, Int.natCast_add]; exact IntWalk.i64_in _ (by omega)
            have hw2 : IntKind.i64.wrap ((s : Int) + 1) = (p : Int) := by rw [← hp, ← hs]; exact IntWalk.i64_in _ (by omega)
            have hw3 : IntKind.i64.wrap ((x' : Int) * (y' : Int)) = (z : Int) := by rw [← hz, Int.natCast_mul]; exact IntWalk.i64_in _ (by rw [← Int.natCast_mul, hz]; omega)
            obtain ⟨vz, hvz⟩ : ∃ vz, v + z = vz := ⟨_, rfl⟩
            have hw4 : IntKind.i64.wrap ((v : Int) + (z : Int)) = (vz : Int) := by rw [← hvz, Int.natCast_add]; exact IntWalk.i64_in _ (by omega)
            have hw5 : IntKind.i64.wrap ((vz : Int) + (cy : Int)) = (u : Int) := by rw [← hu, ← hvz, Int.natCast_add, Int.natCast_add]; exact IntWalk.i64_in _ (by omega)
            have hwr : IntKind.i64.wrap ((r : Int) - 1) = (r : Int) - 1 := IntWalk.i64_in _ (by omega)
            obtain ⟨d, hd⟩ : ∃ d, u % 10 = d := ⟨_, rfl⟩
            obtain ⟨cc, hcc⟩ : ∃ cc, u / 10 = cc := ⟨_, rfl⟩
            have hm1 : (u : Int) % 10 = (d : Int) := by omega
            have hm2 : Int.tmod (u : Int) 10 = (d : Int) := by rw [Int.tmod_eq_emod_of_nonneg (by omega)]; exact hm1
            have hm3 : (u : Int) / 10 = (cc : Int) := by omega
            have hm4 : Int.tdiv (u : Int) 10 = (cc : Int) := by rw [Int.tdiv_eq_ediv_of_nonneg (by omega)]; exact hm3
            have hd10 : d < 10 := by omega
            have hc9 : cc ≤ 9 := by omega
            rw [hz, hu, hd, hcc] at hcs
            have hp0 : (0 : Int) ≤ (p : Int) := by omega
            have hpT : (p : Int) < (T : Int) := by have := HT.out; omega
            have hplen : p < (i64s L2).length := by rw [i64s_len, hLl]; omega
            have fin : ∀ W : World, W.heap = wr.heap → Row (W.setCell ⟨X + 3, p, none⟩ (.int .i64 (d : Int))) (X + 3) 3 T (i64s (L2.set p d)) := by
              intro W hW
              have h1 : Row W (X + 3) 3 T (i64s L2) := by
                obtain ⟨cur, hg, hr⟩ := hrow
                exact ⟨cur, by rw [hW]; exact hg, hr⟩
              have h2 := h1.set hplen (.int .i64 (d : Int))
              rw [← i64s_set'] at h2
              exact h2
            have hpq : q < p := by omega
            have FIN := Lib.hid fin
            have HCS := Lib.hid hcs
            have HF := Lib.hid (And.intro hLl (And.intro hLd hLz))
            clear hLl hLn hLd hLz hrow hy hv hz hs hp hu hvz hd hcc hu1 hu2 hx' hy' hm1 hm3 hcs hplen fin hK
            go_wp2_with fail
            go_quiet (fail)
            go_wp2_with fail
            go_roundg f3
            case measure => omega
            case rel =>
              obtain ⟨h1, h3, h4⟩ := HF.out
              refine ⟨r, (r : Int) - 1, cc, L2.set p d, rfl, rfl, by omega, by omega, by omega, hc9, by rw [List.length_set]; exact h1, HCS.out, ?_, ?_, FIN.out _ rfl, (below_drewN hby _).setCell (p := ⟨X + 3, p, none⟩) (Nat.le_refl _) _⟩
              · intro u hu
                rcases List.mem_or_eq_of_mem_set hu with hu | hu
                · exact h3 u hu
                · rw [hu]; omega
              · intro j u hu hj
                rw [List.getElem?_set_ne (by omega)] at hu
                exact h4 j u hu (by omega)
  case rest =>
    obtain ⟨L, hrow, hLl, hLn, hLd, hb4⟩ := hcut
    obtain ⟨w4, hw4⟩ : ∃ W, W = wc := ⟨_, rfl⟩
    subst hw4
    clear p0 p1 p2 q0 q1 q2
    obtain ⟨⟨p0, p1, p2⟩, ⟨q0, q1, q2⟩, _⟩ := HC.out _ hb4
    obtain ⟨G, hG⟩ : ∃ G, (g != g') = G := ⟨_, rfl⟩
    have hG2 : (!(g == g')) = G := hG
    have hBe : L = Dc.digN T (Dc.num l * Dc.num l') := Dc.digN_is hLd hLl hLn
    have hRe : Dc.norm G L (e + e') = R := by
      rw [← HR.out, Dc.prodP, hBe, ← hG]
      simp only
      rw [HLN.out.1, HLN.out.2, HT.out]
    have hrd := hrow.reads
    rw [i64s_len, hLl] at hrd
    have hwe : IntKind.i64.wrap (e + e') = e + e' := IntWalk.i64_in _ (by omega)
    have NO : Calls Tryz.prog 27 #[.bool G, .slice (some ⟨X + 3, 0, none⟩) T T, .int .i64 (e + e')] w4 fun x w' => ∃ A' cA nA, x = .returned (.agg #[.bool R.neg, .slice A' nA cA, .int .i64 R.e]) ∧ RNumO w4.heap.size w' (.agg #[.bool R.neg, .slice A' nA cA, .int .i64 R.e]) R ∧ Below w4.heap.size w4 w' := by
      refine (refnorm_any G (some ⟨X + 3, 0, none⟩) T T L (e + e') w4 hrd (by omega) (by omega)).mono ?_
      rintro x w' ⟨v, rfl, hv, hb⟩
      rw [hRe] at hv
      obtain ⟨A', cA, rfl, ho⟩ := hv
      exact ⟨A', cA, R.c.length, rfl, ⟨A', cA, rfl, ho⟩, hb⟩
    obtain ⟨gr, hgr⟩ : ∃ z, R.neg = z := ⟨_, rfl⟩
    obtain ⟨er, her⟩ : ∃ z, R.e = z := ⟨_, rfl⟩
    rw [hgr, her] at NO
    have NO := Lib.hid NO
    have HG := Lib.hid hG2
    clear hrow hLl hLn hLd hBe hRe hrd hgr her hG hG2
    go_wp2_with fail
    rw [HG.out]
    refine (NO.out).mono ?_
    rintro x w7 ⟨A9, c9, n9, rfl, hr7, hb7⟩
    have hsz6 : X + 3 ≤ w4.heap.size := by have := hb4.size; rw [HSZ.out] at this; exact this
    have hb27 : Below (X + 3) w2 w7 := hb4.trans (hb7.mono hsz6)
    clear p0 p1 p2 q0 q1 q2
    obtain ⟨_, _, ⟨z0, z1, z2⟩, f0, f1, f2⟩ := HC.out _ hb27
    have HR7 := Lib.hid hr7
    have HB27 := Lib.hid hb27
    clear hr7 hb27 hb7
    go_wp2_with fail
    refine bodyPost_ret (v := .agg #[.bool gr, .slice A9 n9 c9, .int .i64 er]) (by simp [results, Tryz.results11, go_sem, z0, z1, z2]) rfl ?_
    refine ⟨_, rfl, ?_, ?_⟩
    · refine RNumO.less (RNumO.beside HR7.out (X := X + 2) (by omega) fun k hk => ?_) (by rw [HX.out]; omega)
      rw [Below.heap_setCell _ _ _ _ hk, Below.heap_setCell _ _ _ _ hk, Below.heap_setCell _ _ _ _ hk]
    · rw [HX.out]
      have hbE := (HB.out.trans (HB27.out.mono (by omega)))
      exact ((hbE.setCell (p := ⟨X + 2, 0, none⟩) (by show X ≤ X + 2; omega) _).setCell (p := ⟨X + 2, 1, none⟩) (by show X ≤ X + 2; omega) _).setCell (p := ⟨X + 2, 2, none⟩) (by show X ≤ X + 2; omega) _
end Go.Proofs.YtmgafnflkfbckaaGreatDoor
