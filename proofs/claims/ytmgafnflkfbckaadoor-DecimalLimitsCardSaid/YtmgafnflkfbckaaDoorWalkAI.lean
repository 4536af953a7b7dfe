/- is0, at a result that is right; Int, the program's and the reference's. -/
import Derived.Test.YtmgafnflkfbckaaDoorWalkAG
import Derived.Test.YtmgafnflkfbckaaDoorWalkAB
namespace Go.Proofs.YtmgafnflkfbckaaDoor
open Go.RowKit Go.Lib

set_option maxHeartbeats 1000000 in
set_option maxRecDepth 100000 in
theorem is0_true (g : Bool) (A : Option Addr) (n c : Nat) (l : List Nat) (e : Int) (w : World) (hr : Reads w w.heap.size A n (i64s l)) (hd : Dc.Digs l) (hn : n ≤ 1048576) :
    Calls Tryd.prog 23 #[.string ⟨(Dc.resS ⟨g, l, e⟩).toArray⟩, .int .i64 (Dc.limit ⟨g, l, e⟩ : Int), .agg #[.bool g, .slice A n c, .int .i64 e]] w fun x w' => x = .returned (.bool true) ∧ Below w.heap.size w w' := by
  have hln : l.length = n := by have := hr.1; rwa [i64s_len] at this
  obtain ⟨m, hm⟩ : ∃ m, Dc.limit ⟨g, l, e⟩ = m := ⟨_, rfl⟩
  have LI := Lib.hid (fun W => reflimit_any g A n c e W)
  have hlim : limN n e = m := by rw [← hm, ← hln]; rfl
  rw [hlim] at LI
  rw [hm]
  obtain ⟨w2, X, hw2, hX, hb2, hX2, hcells⟩ := box_ref g A n c e w
  have hr2 := hr.on hb2
  have HC := Lib.hid hcells
  have HW2 := Lib.hid hw2
  have HXX := Lib.hid hX
  have HR2 := Lib.hid hr2
  have hd2 : Below w2.heap.size w2 w2 := Below.refl _ _
  obtain ⟨q0, q1, q2, _⟩ := hcells w2 hd2
  by_cases h0 : m = 0
  · obtain ⟨_, b3, b4⟩ := Dc.limit_ok.1 (hm.trans h0)
    have SH := fun W hW => show_any g A n c l e W hW hd hn ⟨by simp only at b3; omega, by simp only at b4; omega⟩
    obtain ⟨T, hT⟩ : ∃ T : ByteArray, ⟨(Dc.showB ⟨g, l, e⟩).toArray⟩ = T := ⟨_, rfl⟩
    rw [hT] at SH
    have SH := Lib.hid SH
    rw [Dc.resS, if_pos (hm.trans h0), hT]
    have hm0 : ((m : Int) == 0) = true := by simp; omega
    subst h0
    clear hcells hw2 hX hr hr2 hd hln hlim hm hT b3 b4
    go_enter Tryd.func23, Tryd.ntmps23
    go_upto_region 1 with fail
    rw [HW2.out, HXX.out]
    go_wp2_with fail
    refine (LI.out _).mono ?_
    rintro x w3 ⟨rfl, hb3⟩
    clear q0 q1 q2
    obtain ⟨q0, q1, q2, _⟩ := HC.out _ hb3
    go_wp2_with fail
    refine (SH.out _ (HR2.out.on hb3)).mono ?_
    rintro x w4 ⟨rfl, hb4⟩
    go_wp2_with fail
    go_ret
    exact ⟨rfl, hb2.trans ((hb3.trans (hb4.mono hb3.size)).mono hb2.size)⟩
  · rw [Dc.resS, if_neg (by rw [hm]; exact h0)]
    have hm0 : ((m : Int) == 0) = false := by simp; omega
    clear hcells hw2 hX hr hr2 hd hln hlim hm h0
    go_enter Tryd.func23, Tryd.ntmps23
    go_upto_region 1 with fail
    rw [HW2.out, HXX.out]
    go_wp2_with fail
    refine (LI.out _).mono ?_
    rintro x w3 ⟨rfl, hb3⟩
    clear q0 q1 q2
    obtain ⟨q0, q1, q2, _⟩ := HC.out _ hb3
    go_wp2_with fail
    refine (LI.out _).mono ?_
    rintro x w4 ⟨rfl, hb4⟩
    go_wp2_with fail
    go_ret
    exact ⟨rfl, hb2.trans ((hb3.trans (hb4.mono hb3.size)).mono hb2.size)⟩

namespace Dc
/-- What Int answers of a number. -/
def intOkB (x : D) : Bool := !decide (x.e < 0) && decide ((x.c.length : Int) + x.e ≤ 400)
def intS (x : D) : List UInt8 := if intOkB x = true then coefB x ++ List.replicate x.e.toNat 48 else []
end Dc
set_option maxHeartbeats 1000000 in
set_option maxRecDepth 100000 in
theorem refint_any (g : Bool) (A : Option Addr) (n c : Nat) (l : List Nat) (e : Int) (w : World) (hr : Reads w w.heap.size A n (i64s l)) (hd : Dc.Digs l) (hn : n ≤ 400) (he : -2000 ≤ e ∧ e ≤ 2000) (hz : n = 0 → e = 0) :
    Calls Tryd.prog 22 #[.agg #[.bool g, .slice A n c, .int .i64 e]] w fun x w' => x = .returned (.tuple #[.string ⟨(Dc.intS ⟨g, l, e⟩).toArray⟩, .bool (Dc.intOkB ⟨g, l, e⟩)]) ∧ Below w.heap.size w w' := by
  have hln : l.length = n := by have := hr.1; rwa [i64s_len] at this
  obtain ⟨b, hb⟩ : ∃ b, Dc.intOkB ⟨g, l, e⟩ = b := ⟨_, rfl⟩
  have hb' : (!decide (e < 0) && decide ((n : Int) + e ≤ 400)) = b := by rw [← hb, ← hln]; rfl
  rw [Dc.intS, hb]
  obtain ⟨w2, X, hw2, hX, hb2, hX2, hcells⟩ := box_ref g A n c e w
  have hr2 := hr.on hb2
  have HC := Lib.hid hcells
  have HW2 := Lib.hid hw2
  have HXX := Lib.hid hX
  have HR2 := Lib.hid hr2
  have hd2 : Below w2.heap.size w2 w2 := Below.refl _ _
  obtain ⟨q0, q1, q2, _⟩ := hcells w2 hd2
  by_cases h1 : e < 0
  · have hv : b = false := by rw [← hb']; simp [h1]
    subst hv
    rw [if_neg (by simp)]
    clear hcells hw2 hX hr hr2 hd hln hb hb'
    go_enter Tryd.func22, Tryd.ntmps22
    go_upto_region 1 with fail
    rw [HW2.out, HXX.out]
    go_wp2_with fail
    go_ret2
    exact ⟨rfl, hb2⟩
  · by_cases h2 : (n : Int) + e ≤ 400
    · have hv : b = true := by rw [← hb']; simp [h2]; omega
      subst hv
      rw [if_pos rfl]
      have h2i : ¬ (400 : Int) < (n : Int) + e := by omega
      obtain ⟨k, rfl⟩ : ∃ k : Nat, e = (k : Int) := ⟨e.toNat, by omega⟩
      by_cases h0 : n = 0
      · obtain rfl : l = [] := List.length_eq_zero_iff.1 (by omega)
        have hk0 : k = 0 := by have := hz h0; omega
        have h2j : ¬ (400 : Int) < (k : Int) := by omega
        have h1j : ¬ (k : Int) < 0 := by omega
        have HK := Lib.hid hk0
        subst h0
        clear hcells hw2 hX hr hr2 hd hln hb hb' hz hk0 h2i h2 h1
        go_enter Tryd.func22, Tryd.ntmps22
        go_upto_region 1 with fail
        rw [HW2.out, HXX.out]
        go_wp2_with fail
        go_ret2
        exact ⟨by rw [HK.out]; rfl, hb2⟩
      · have h0f : ((n : Int) == 0) = false := by simp; omega
        obtain ⟨S, hS⟩ : ∃ S : ByteArray, ⟨(Dc.sgnB g).toArray⟩ = S := ⟨_, rfl⟩
        obtain ⟨T, hT⟩ : ∃ T : ByteArray, ⟨(Dc.digB l).toArray⟩ = T := ⟨_, rfl⟩
        obtain ⟨Z, hZ⟩ : ∃ Z : ByteArray, ⟨(List.replicate k (48 : UInt8)).toArray⟩ = Z := ⟨_, rfl⟩
        have hSs : S.size ≤ 1 := by rw [← hS, str_size]; exact sgn_len g
        have hTs : T.size = n := by rw [← hT, str_size, Dc.digB_len, hln]
        have hZs : Z.size = k := by rw [← hZ, str_size, List.length_replicate]
        have SG := Lib.hid (fun W => refsign_any g A n c (k : Int) W)
        have DG := Lib.hid (fun W hW => word_any A n c l W hW hd (by omega))
        have ZE := Lib.hid (fun W => zeros_any k W (by omega))
        rw [hS] at SG
        rw [hT] at DG
        rw [hZ] at ZE
        have hv : (⟨(Dc.coefB ⟨g, l, (k : Int)⟩ ++ List.replicate (k : Int).toNat 48).toArray⟩ : ByteArray) = S ++ T ++ Z := by
          have hne : l ≠ [] := by intro h; subst h; simp at hln; omega
          rw [← hS, ← hT, ← hZ, str_append, str_append, Dc.coefB, if_neg hne, Int.toNat_natCast]
        simp only
        rw [hv]
        have hadd1 := fun W => run_string_add_sum (P := Tryd.prog) (w := W) S T (by omega)
        have hadd2 := fun W => run_string_add_sum (P := Tryd.prog) (w := W) (S ++ T) Z (by rw [ByteArray.size_append]; omega)
        clear hcells hw2 hX hr hr2 hd hln hb hb' hz hS hT hZ hv h0
        go_enter Tryd.func22, Tryd.ntmps22
        go_upto_region 1 with fail
        rw [HW2.out, HXX.out]
        go_wp2_with fail
        go_region_held3 (fun W => W.cell? ⟨X, 0, none⟩ = some (.bool g) ∧ W.cell? ⟨X, 1, none⟩ = some (.slice A n c) ∧ W.cell? ⟨X, 2, none⟩ = some (.int .i64 (k : Int)) ∧ Below w2.heap.size w2 W)
          ((refine HC.out _ ?_; first | assumption | exact hd2.drew))
          (first | (go_at_call 44; refine (SG.out _).mono ?_; rintro x w7 ⟨rfl, hb7⟩; have hb7' := n3_trans (by assumption) hb7) | (go_at_call 43; refine (DG.out _ (HR2.out.on (n3 (by assumption)))).mono ?_; rintro x w8 ⟨rfl, hb8⟩; have hb8' := n3_trans (by assumption) hb8) | (go_at_call 45; refine (ZE.out _).mono ?_; rintro x w9 ⟨rfl, hw9⟩; subst hw9))
        all_goals
          go_wp2_with fail
          go_ret2
          exact ⟨rfl, hb2.trans (hb8'.mono hb2.size)⟩
    · have hv : b = false := by rw [← hb']; simp [h2]
      subst hv
      rw [if_neg (by simp)]
      have h2i : (400 : Int) < (n : Int) + e := by omega
      clear hcells hw2 hX hr hr2 hd hln hb hb'
      go_enter Tryd.func22, Tryd.ntmps22
      go_upto_region 1 with fail
      rw [HW2.out, HXX.out]
      go_wp2_with fail
      go_ret2
      exact ⟨rfl, hb2⟩

set_option maxHeartbeats 1000000 in
set_option maxRecDepth 100000 in
theorem int_some (s : ByteArray) (y : Dc.D) (w : World) (hs : s.size ≤ 536870912) (hL : Laid w) (hy : Dc.readP s.data.toList = some y) :
    Calls Tryd.prog 21 #[.string s] w fun x w' => x = .returned (.tuple #[.string ⟨(Dc.intS y).toArray⟩, .bool (Dc.intOkB y)]) ∧ Below w.heap.size w w' := by
  have RD := read_some s w hs hL y hy
  obtain ⟨hcn, hc1, hc2, hc3⟩ := Dc.canon_bound (Dc.readP_some hy).1
  obtain ⟨g, l, e, n, hg, hl, hee, hln, hyy⟩ := num_letters y
  rw [hl, hg, hee, hln] at RD
  rw [hl] at hcn hc1
  rw [hee] at hc2 hc3
  rw [hln] at hc1
  rw [hyy]
  obtain ⟨b, hb⟩ : ∃ b, Dc.intOkB ⟨g, l, e⟩ = b := ⟨_, rfl⟩
  have hb' : (!decide (e < 0) && decide ((n : Int) + e ≤ 400)) = b := by rw [← hb, ← hln]; rfl
  rw [Dc.intS, hb]
  have RD := Lib.hid RD
  have HL := Lib.hid hL
  by_cases h1 : e < 0
  · have hv : b = false := by rw [← hb']; simp [h1]
    subst hv
    rw [if_neg (by simp)]
    clear hy hg hl hee hyy hb hb' hL hln
    go_enter Tryd.func21, Tryd.ntmps21
    go_wp2_with fail
    refine (RD.out).mono ?_
    rintro x w1 ⟨A, rfl, hr1, hb1⟩
    go_wp2_with fail
    go_ret2
    exact ⟨rfl, hb1.alloc hb1.size _⟩
  · by_cases h2 : (n : Int) + e ≤ 400
    · have hv : b = true := by rw [← hb']; simp [h2]; omega
      subst hv
      rw [if_pos rfl]
      have h2i : ¬ (400 : Int) < (n : Int) + e := by omega
      obtain ⟨k, rfl⟩ : ∃ k : Nat, e = (k : Int) := ⟨e.toNat, by omega⟩
      obtain ⟨C, hC⟩ : ∃ C : ByteArray, ⟨(Dc.coefB ⟨g, l, (k : Int)⟩).toArray⟩ = C := ⟨_, rfl⟩
      obtain ⟨Z, hZ⟩ : ∃ Z : ByteArray, ⟨(List.replicate k (48 : UInt8)).toArray⟩ = Z := ⟨_, rfl⟩
      have hCs : C.size ≤ n + 1 := by rw [← hC, str_size]; have := coef_len ⟨g, l, (k : Int)⟩; simp only [hln] at this; exact this
      have hZs : Z.size = k := by rw [← hZ, str_size, List.length_replicate]
      have CO := Lib.hid (fun A W hW => coef_any g A n l (k : Int) W hW hcn (by omega))
      rw [hC] at CO
      have ZE := fun W => Tryd.strings_Repeat ⟨#[48]⟩ k W (by omega) (by rw [size_1]; omega)
      rw [repeat_zeros, hZ] at ZE
      have ZE := Lib.hid ZE
      have hv : (⟨(Dc.coefB ⟨g, l, (k : Int)⟩ ++ List.replicate (k : Int).toNat 48).toArray⟩ : ByteArray) = C ++ Z := by
        rw [← hC, ← hZ, str_append, Int.toNat_natCast]
      simp only
      rw [hv]
      have hadd1 := fun W => run_string_add_sum (P := Tryd.prog) (w := W) C Z (by omega)
      clear hy hg hl hee hyy hb hb' hL hln hC hZ hv hcn
      go_enter Tryd.func21, Tryd.ntmps21
      go_wp2_with fail
      refine (RD.out).mono ?_
      rintro x w1 ⟨A, rfl, hr1, hb1⟩
      obtain ⟨w2, X, hw2, hX, hb2, hX2, hcells⟩ := box_num g A n n (k : Int) w1
      have hb12 := hb1.trans (hb2.mono hb1.size)
      have HW2 := Lib.hid hw2
      have HXX := Lib.hid hX
      have HC := Lib.hid hcells
      have HR2 := Lib.hid (hr1.on hb2)
      have hd2 : Below w2.heap.size w2 w2 := Below.refl _ _
      obtain ⟨q0, q1, q2, _⟩ := hcells w2 hd2
      clear hw2 hX hr1 hcells
      go_upto_region 2 with fail
      rw [HW2.out, HXX.out]
      go_wp2_with fail
      go_region_held3 (fun W => W.cell? ⟨X, 0, none⟩ = some (.bool g) ∧ W.cell? ⟨X, 1, none⟩ = some (.slice A n n) ∧ W.cell? ⟨X, 2, none⟩ = some (.int .i64 (k : Int)) ∧ Below w2.heap.size w2 W)
        ((refine HC.out _ ?_; first | assumption | exact hd2.drew))
        (first | (go_at_call 54; refine (CO.out A _ (HR2.out.on (n3 (by assumption)))).mono ?_; rintro x w7 ⟨rfl, hb7⟩; have hb7' := n3_trans (by assumption) hb7) | (go_at_call 39; refine (ZE.out _).mono ?_; rintro x w8 ⟨rfl, hb8⟩; have hb8' := n3_trans (by assumption) hb8))
      all_goals
        go_wp2_with fail
        go_ret2
        exact ⟨rfl, hb12.trans (hb8'.mono hb12.size)⟩
    · have hv : b = false := by rw [← hb']; simp [h2]
      subst hv
      rw [if_neg (by simp)]
      have h2i : (400 : Int) < (n : Int) + e := by omega
      clear hy hg hl hee hyy hb hb' hL hln
      go_enter Tryd.func21, Tryd.ntmps21
      go_wp2_with fail
      refine (RD.out).mono ?_
      rintro x w1 ⟨A, rfl, hr1, hb1⟩
      obtain ⟨w2, X, hw2, hX, hb2, hX2, hcells⟩ := box_num g A n n e w1
      have hb12 := hb1.trans (hb2.mono hb1.size)
      have HW2 := Lib.hid hw2
      have HXX := Lib.hid hX
      have hd2 : Below w2.heap.size w2 w2 := Below.refl _ _
      obtain ⟨q0, q1, q2, _⟩ := hcells w2 hd2
      clear hw2 hX hr1 hcells
      go_upto_region 2 with fail
      rw [HW2.out, HXX.out]
      go_wp2_with fail
      go_ret2
      exact ⟨rfl, hb12⟩

set_option maxHeartbeats 1000000 in
set_option maxRecDepth 100000 in
theorem int_none (s : ByteArray) (w : World) (hs : s.size ≤ 536870912) (hL : Laid w) (hy : Dc.readP s.data.toList = none) :
    Calls Tryd.prog 21 #[.string s] w fun x w' => x = .returned (.tuple #[.string ⟨#[]⟩, .bool false]) ∧ Below w.heap.size w w' := by
  have RS := Lib.hid (read_none s w hs hL hy)
  clear hy hL
  go_enter Tryd.func21, Tryd.ntmps21
  go_wp2_with fail
  refine (RS.out).mono ?_
  rintro x w7 ⟨⟨g, A, n, e, rfl⟩, hb7⟩
  go_wp2_with fail
  go_ret2
  exact ⟨rfl, hb7.alloc hb7.size _⟩
end Go.Proofs.YtmgafnflkfbckaaDoor
