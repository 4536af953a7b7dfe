/- The reference: Text. -/
import Derived.Test.YtmgafnflkfbckaaDoorWalkU
import Derived.Test.YtmgafnflkfbckaaDoorPlain4
namespace Go.Proofs.YtmgafnflkfbckaaDoor
open Go.RowKit Go.Lib

theorem lit_1 (a : UInt8) : (⟨#[a]⟩ : ByteArray) = ⟨([a] : List UInt8).toArray⟩ := rfl
theorem lit_2 (a b : UInt8) : (⟨#[a, b]⟩ : ByteArray) = ⟨([a, b] : List UInt8).toArray⟩ := rfl
theorem size_1 (a : UInt8) : (⟨#[a]⟩ : ByteArray).size = 1 := rfl
theorem size_2 (a b : UInt8) : (⟨#[a, b]⟩ : ByteArray).size = 2 := rfl
theorem ext_take (l : List UInt8) (k : Nat) : (⟨l.toArray⟩ : ByteArray).extract 0 k = ⟨(l.take k).toArray⟩ := by
  apply ByteArray.ext
  apply Array.ext'
  show (ByteArray.extract _ _ _).data.toList = _
  rw [ByteArray.data_extract]; simp
theorem ext_drop (l : List UInt8) (k : Nat) : (⟨l.toArray⟩ : ByteArray).extract k (⟨l.toArray⟩ : ByteArray).size = ⟨(l.drop k).toArray⟩ := by
  apply ByteArray.ext
  apply Array.ext'
  show (ByteArray.extract _ _ _).data.toList = _
  rw [ByteArray.data_extract, str_size]
  simp only [Array.toList_extract, List.extract_eq_take_drop]
  exact List.take_of_length_le (by simp)
set_option maxHeartbeats 2000000 in
set_option maxRecDepth 100000 in
theorem reftext_any (g : Bool) (A : Option Addr) (n c : Nat) (l : List Nat) (e : Int) (w : World) (hr : Reads w w.heap.size A n (i64s l)) (hd : Dc.Digs l) (hn : n ≤ 400) (he : -2000 ≤ e ∧ e ≤ 2000) :
    Calls Tryd.prog 14 #[.agg #[.bool g, .slice A n c, .int .i64 e]] w fun x w' => x = .returned (.string ⟨(Dc.textB ⟨g, l, e⟩).toArray⟩) ∧ Below w.heap.size w w' := by
  have hln : l.length = n := by have := hr.1; rwa [i64s_len] at this
  obtain ⟨w2, X, hw2, hX, hb2, hX2, hcells⟩ := box_ref g A n c e w
  have hr2 := hr.on hb2
  have HC := Lib.hid hcells
  have HW2 := Lib.hid hw2
  have HXX := Lib.hid hX
  have HR2 := Lib.hid hr2
  have hd2 : Below w2.heap.size w2 w2 := Below.refl _ _
  obtain ⟨q0, q1, q2, _⟩ := hcells w2 hd2
  obtain ⟨Q, hQ⟩ : ∃ Q : ByteArray, ⟨(Dc.textB ⟨g, l, e⟩).toArray⟩ = Q := ⟨_, rfl⟩
  rw [hQ]
  by_cases h0 : n = 0
  · have hv : Q = ⟨#[48, 46, 48]⟩ := by rw [← hQ, Dc.textB, if_pos (by simp only [hln]; exact h0)]
    have HV := Lib.hid hv
    subst h0
    clear hcells hw2 hX hr hr2 hd hln hQ hv
    go_enter Tryd.func14, Tryd.ntmps14
    go_upto_region 1 with fail
    rw [HW2.out, HXX.out]
    go_wp2
    go_ret
    exact ⟨by rw [HV.out]; rfl, hb2⟩
  · obtain ⟨S, hS⟩ : ∃ S : ByteArray, ⟨(Dc.sgnB g).toArray⟩ = S := ⟨_, rfl⟩
    obtain ⟨T, hT⟩ : ∃ T : ByteArray, ⟨(Dc.digB l).toArray⟩ = T := ⟨_, rfl⟩
    have hSs : S.size ≤ 1 := by rw [← hS, str_size]; exact sgn_len g
    have hTs : T.size = n := by rw [← hT, str_size, Dc.digB_len, hln]
    have SG := Lib.hid (fun W => refsign_any g A n c e W)
    have DG := Lib.hid (fun W hW => word_any A n c l W hW hd (by omega))
    rw [hS] at SG
    rw [hT] at DG
    have h0f : ((n : Int) == 0) = false := by simp; omega
    have hn0 : (1 : Int) ≤ (n : Int) := by omega
    by_cases c1 : 0 ≤ e ∧ (n : Int) + e + 1 ≤ 20
    · obtain ⟨k, rfl⟩ : ∃ k : Nat, e = (k : Int) := ⟨e.toNat, by omega⟩
      have hkk : (n : Int) + (k : Int) + 1 ≤ 20 := c1.2
      have hk0 : (0 : Int) ≤ (k : Int) := by omega
      obtain ⟨Z, hZ⟩ : ∃ Z : ByteArray, ⟨(List.replicate k (48 : UInt8)).toArray⟩ = Z := ⟨_, rfl⟩
      have hZs : Z.size = k := by rw [← hZ, str_size, List.length_replicate]
      have ZE := Lib.hid (fun W => zeros_any k W (by omega))
      rw [hZ] at ZE
      have hv : Q = S ++ T ++ Z ++ ⟨#[46, 48]⟩ := by
        rw [← hQ, ← hS, ← hT, ← hZ, lit_2, str_append, str_append, str_append, Dc.textB]
        simp only [hln]
        rw [if_neg h0, if_pos c1]
        simp
      have HV := Lib.hid hv
      have hadd1 := fun W => run_string_add_sum (P := Tryd.prog) (w := W) S T (by omega)
      have hadd2 := fun W => run_string_add_sum (P := Tryd.prog) (w := W) (S ++ T) Z (by rw [ByteArray.size_append]; omega)
      have hadd3 := fun W => run_string_add_sum (P := Tryd.prog) (w := W) (S ++ T ++ Z) ⟨#[46, 48]⟩ (by rw [ByteArray.size_append, ByteArray.size_append, size_2]; omega)
      clear hS hT hcells hw2 hX hr hr2 hd hln hQ hv hZ c1 h0
      go_enter Tryd.func14, Tryd.ntmps14
      go_upto_region 1 with fail
      rw [HW2.out, HXX.out]
      go_wp2_with fail
      refine (DG.out _ HR2.out).mono ?_
      rintro x w3 ⟨rfl, hb3⟩
      clear q0 q1 q2
      obtain ⟨q0, q1, q2, _⟩ := HC.out _ hb3
      go_wp2_with fail
      go_region_held3 (fun W => W.cell? ⟨X, 0, none⟩ = some (.bool g) ∧ W.cell? ⟨X, 1, none⟩ = some (.slice A n c) ∧ W.cell? ⟨X, 2, none⟩ = some (.int .i64 (k : Int)) ∧ Below w2.heap.size w2 W)
        ((refine HC.out _ ?_; first | assumption | exact hb3.drew))
        (first | (go_at_call 44; refine (SG.out _).mono ?_; rintro x w7 ⟨rfl, hb7⟩; have hb7' := n3_trans (by assumption) hb7) | (go_at_call 45; refine (ZE.out _).mono ?_; rintro x w8 ⟨rfl, hw8⟩; subst hw8))
      all_goals
        go_wp2_with fail
        go_ret
        exact ⟨by rw [HV.out]; rfl, hb2.trans (hb7'.mono hb2.size)⟩
    · by_cases c2 : e < 0 ∧ -(n : Int) < e ∧ n ≤ 20
      · obtain ⟨k, hk⟩ : ∃ k : Nat, (n : Int) + e = (k : Int) := ⟨((n : Int) + e).toNat, by omega⟩
        have hv : Q = S ++ T.extract 0 k ++ ⟨#[46]⟩ ++ T.extract k n := by
          rw [← hTs, ← hQ, ← hS, ← hT, ext_take, ext_drop, lit_1, str_append, str_append, str_append, Dc.textB]
          simp only [hln]
          rw [if_neg h0, if_neg c1, if_pos ⟨c2.1, by omega, c2.2.2⟩, hk]
          simp
        have HV := Lib.hid hv
        have hen : e < 0 := c2.1
        have hen2 : -(n : Int) < e := c2.2.1
        have hn20 : (n : Int) ≤ 20 := by omega
        have hkw : IntKind.i64.wrap ((n : Int) + e) = (k : Int) := by rw [hk]; exact IntWalk.i64_in _ (by omega)
        have hk0 : (0 : Int) ≤ (k : Int) := by omega
        have hkn : (k : Int) ≤ (n : Int) := by omega
        have hx1 : (T.extract 0 k).size = k := by rw [ByteArray.size_extract]; omega
        have hx2 : (T.extract k n).size ≤ n := by rw [ByteArray.size_extract]; omega
        obtain ⟨T1, hT1⟩ : ∃ T1, T.extract 0 k = T1 := ⟨_, rfl⟩
        obtain ⟨T2, hT2⟩ : ∃ T2, T.extract k n = T2 := ⟨_, rfl⟩
        rw [hT1] at hx1
        rw [hT2] at hx2
        have hadd1 := fun W => run_string_add_sum (P := Tryd.prog) (w := W) S (T.extract 0 k) (by rw [hT1]; omega)
        have hadd2 := fun W => run_string_add_sum (P := Tryd.prog) (w := W) (S ++ T.extract 0 k) ⟨#[46]⟩ (by rw [hT1, ByteArray.size_append, size_1]; omega)
        have hadd3 := fun W => run_string_add_sum (P := Tryd.prog) (w := W) (S ++ T.extract 0 k ++ ⟨#[46]⟩) (T.extract k n) (by rw [hT1, hT2, ByteArray.size_append, ByteArray.size_append, size_1]; omega)
        have HKW := Lib.hid hk
        clear hS hT hcells hw2 hX hr hr2 hd hln hQ hv c1 c2 h0 hk hT1 hT2
        go_enter Tryd.func14, Tryd.ntmps14
        go_upto_region 1 with fail
        rw [HW2.out, HXX.out]
        go_wp2_with fail
        refine (DG.out _ HR2.out).mono ?_
        rintro x w3 ⟨rfl, hb3⟩
        clear q0 q1 q2
        obtain ⟨q0, q1, q2, _⟩ := HC.out _ hb3
        go_wp2_with fail
        go_region_held3 (fun W => W.cell? ⟨X, 0, none⟩ = some (.bool g) ∧ W.cell? ⟨X, 1, none⟩ = some (.slice A n c) ∧ W.cell? ⟨X, 2, none⟩ = some (.int .i64 e) ∧ Below w2.heap.size w2 W)
          ((refine HC.out _ ?_; first | assumption | exact hb3.drew))
          (first | (go_at_call 44; refine (SG.out _).mono ?_; rintro x w7 ⟨rfl, hb7⟩; have hb7' := n3_trans (by assumption) hb7))
        all_goals
          go_wp2_with fail
          go_ret
          exact ⟨by rw [HV.out]; rfl, hb2.trans (hb7'.mono hb2.size)⟩
      · by_cases c3 : e ≤ -(n : Int) ∧ 1 - e ≤ 20
        · obtain ⟨k, hk⟩ : ∃ k : Nat, -e - (n : Int) = (k : Int) := ⟨(-e - (n : Int)).toNat, by omega⟩
          obtain ⟨Z, hZ⟩ : ∃ Z : ByteArray, ⟨(List.replicate k (48 : UInt8)).toArray⟩ = Z := ⟨_, rfl⟩
          have hZs : Z.size = k := by rw [← hZ, str_size, List.length_replicate]
          have ZE := fun W => zeros_any k W (by omega)
          rw [hZ, ← hk] at ZE
          have ZE := Lib.hid ZE
          have hkw : IntKind.i64.wrap (-e - (n : Int)) = -e - (n : Int) := IntWalk.i64_in _ (by omega)
          have hkw2 : IntKind.i64.wrap (-e) = -e := IntWalk.i64_in _ (by omega)
          have hv : Q = S ++ ⟨#[48, 46]⟩ ++ Z ++ T := by
            rw [← hQ, ← hS, ← hT, ← hZ, lit_2, str_append, str_append, str_append, Dc.textB]
            simp only [hln]
            rw [if_neg h0, if_neg c1, if_neg (fun h => c2 ⟨h.1, by omega, h.2.2⟩), if_pos ⟨by omega, by omega, c3.2⟩, hk]
            simp
          have HV := Lib.hid hv
          have hen : e < 0 := by omega
          have hen3 : e ≤ -(n : Int) := c3.1
          have hen2 : ¬ -(n : Int) < e := by omega
          have h120 : 1 - e ≤ 20 := c3.2
          have hadd1 := fun W => run_string_add_sum (P := Tryd.prog) (w := W) S ⟨#[48, 46]⟩ (by rw [size_2]; omega)
          have hadd2 := fun W => run_string_add_sum (P := Tryd.prog) (w := W) (S ++ ⟨#[48, 46]⟩) Z (by rw [ByteArray.size_append, size_2]; omega)
          have hadd3 := fun W => run_string_add_sum (P := Tryd.prog) (w := W) (S ++ ⟨#[48, 46]⟩ ++ Z) T (by rw [ByteArray.size_append, ByteArray.size_append, size_2]; omega)
          clear hS hT hcells hw2 hX hr hr2 hd hln hQ hv hZ c1 c2 c3 h0 hk
          go_enter Tryd.func14, Tryd.ntmps14
          go_upto_region 1 with fail
          rw [HW2.out, HXX.out]
          go_wp2_with fail
          refine (DG.out _ HR2.out).mono ?_
          rintro x w3 ⟨rfl, hb3⟩
          clear q0 q1 q2
          obtain ⟨q0, q1, q2, _⟩ := HC.out _ hb3
          go_wp2_with fail
          go_region_held3 (fun W => W.cell? ⟨X, 0, none⟩ = some (.bool g) ∧ W.cell? ⟨X, 1, none⟩ = some (.slice A n c) ∧ W.cell? ⟨X, 2, none⟩ = some (.int .i64 e) ∧ Below w2.heap.size w2 W)
            ((refine HC.out _ ?_; first | assumption | exact hb3.drew))
            (first | (go_at_call 44; refine (SG.out _).mono ?_; rintro x w7 ⟨rfl, hb7⟩; have hb7' := n3_trans (by assumption) hb7) | (go_at_call 45; refine (ZE.out _).mono ?_; rintro x w8 ⟨rfl, hw8⟩; subst hw8))
          all_goals
            go_wp2_with fail
            go_ret
            exact ⟨by rw [HV.out]; rfl, hb2.trans (hb7'.mono hb2.size)⟩
        · have hx1 : (T.extract 0 1).size ≤ 1 := by rw [ByteArray.size_extract]; omega
          have hx2 : (T.extract 1 n).size ≤ n := by rw [ByteArray.size_extract]; omega
          obtain ⟨T1, hT1⟩ : ∃ T1, T.extract 0 1 = T1 := ⟨_, rfl⟩
          obtain ⟨T2, hT2⟩ : ∃ T2, T.extract 1 n = T2 := ⟨_, rfl⟩
          rw [hT1] at hx1
          rw [hT2] at hx2
          obtain ⟨M, hM⟩ : ∃ M : ByteArray, ⟨(Lib.itoa (e + (n : Int) - 1)).toArray⟩ = M := ⟨_, rfl⟩
          have hMs : M.size ≤ 20 := by rw [← hM, str_size]; exact itoa_len _ (by omega) (by omega)
          have NB := fun W => number_any (e + (n : Int) - 1) W (by omega) (by omega)
          rw [hM] at NB
          have NB := Lib.hid NB
          have hcase : (0 ≤ e ∧ ¬ (n : Int) + e + 1 ≤ 20 ∧ ¬ e < 0 ∧ ¬ e ≤ -(n : Int)) ∨ (e < 0 ∧ ¬ 0 ≤ e ∧ -(n : Int) < e ∧ ¬ (n : Int) ≤ 20 ∧ ¬ e ≤ -(n : Int)) ∨ (e < 0 ∧ ¬ 0 ≤ e ∧ ¬ -(n : Int) < e ∧ e ≤ -(n : Int) ∧ ¬ 1 - e ≤ 20) := by omega
          by_cases h1 : 1 < n
          · have hn1 : (1 : Int) < (n : Int) := by omega
            have hv : Q = S ++ T.extract 0 1 ++ ⟨#[46]⟩ ++ T.extract 1 n ++ ⟨#[101]⟩ ++ M := by
              rw [← hTs, ← hQ, ← hS, ← hT, ← hM, ext_take, ext_drop, lit_1, lit_1, str_append, str_append, str_append, str_append, str_append, Dc.textB]
              simp only [hln]
              rw [if_neg h0, if_neg c1, if_neg (fun h => c2 ⟨h.1, by omega, h.2.2⟩), if_neg (fun h => c3 ⟨by have := h.2.1; omega, h.2.2⟩), if_pos h1]
              simp
            have HV := Lib.hid hv
            have hadd1 := fun W => run_string_add_sum (P := Tryd.prog) (w := W) S (T.extract 0 1) (by rw [hT1]; omega)
            have hadd2 := fun W => run_string_add_sum (P := Tryd.prog) (w := W) (S ++ T.extract 0 1) ⟨#[46]⟩ (by rw [hT1, ByteArray.size_append, size_1]; omega)
            have hadd3 := fun W => run_string_add_sum (P := Tryd.prog) (w := W) (S ++ T.extract 0 1 ++ ⟨#[46]⟩) (T.extract 1 n) (by rw [hT1, hT2, ByteArray.size_append, ByteArray.size_append, size_1]; omega)
            have hadd4 := fun W => run_string_add_sum (P := Tryd.prog) (w := W) (S ++ T.extract 0 1 ++ ⟨#[46]⟩ ++ T.extract 1 n) ⟨#[101]⟩ (by rw [hT1, hT2, ByteArray.size_append, ByteArray.size_append, ByteArray.size_append, size_1, size_1]; omega)
            have hadd5 := fun W => run_string_add_sum (P := Tryd.prog) (w := W) (S ++ T.extract 0 1 ++ ⟨#[46]⟩ ++ T.extract 1 n ++ ⟨#[101]⟩) M (by rw [hT1, hT2, ByteArray.size_append, ByteArray.size_append, ByteArray.size_append, ByteArray.size_append, size_1, size_1]; omega)
            clear hS hT hcells hw2 hX hr hr2 hd hln hQ hv hM c1 c2 c3 h0 hT1 hT2 h1
            rcases hcase with ⟨k1, k2, k3, k4⟩ | ⟨k1, k2, k3, k4, k5⟩ | ⟨k1, k2, k3, k4, k5⟩
            all_goals try (exfalso; omega)
            all_goals
              go_enter Tryd.func14, Tryd.ntmps14
              go_upto_region 1 with fail
              rw [HW2.out, HXX.out]
              go_wp2_with fail
              refine (DG.out _ HR2.out).mono ?_
              rintro x w3 ⟨rfl, hb3⟩
              clear q0 q1 q2
              obtain ⟨q0, q1, q2, _⟩ := HC.out _ hb3
              go_wp2_with fail
              go_region_held3 (fun W => W.cell? ⟨X, 0, none⟩ = some (.bool g) ∧ W.cell? ⟨X, 1, none⟩ = some (.slice A n c) ∧ W.cell? ⟨X, 2, none⟩ = some (.int .i64 e) ∧ Below w2.heap.size w2 W)
                ((refine HC.out _ ?_; first | assumption | exact hb3.drew))
                (first | (go_at_call 44; refine (SG.out _).mono ?_; rintro x w7 ⟨rfl, hb7⟩; have hb7' := n3_trans (by assumption) hb7))
              all_goals
                clear q0 q1 q2
                obtain ⟨q0, q1, q2, _⟩ := HC.out _ hb7'
                go_wp2_with fail
                refine (NB.out _).mono ?_
                rintro x w8 ⟨rfl, hb8⟩
                go_wp2_with fail
                go_ret
                exact ⟨by rw [HV.out]; rfl, hb2.trans ((hb7'.trans (hb8.mono hb7'.size)).mono hb2.size)⟩
          · have hn1 : ¬ (1 : Int) < (n : Int) := by omega
            have hv : Q = S ++ T.extract 0 1 ++ ⟨#[101]⟩ ++ M := by
              rw [← hQ, ← hS, ← hT, ← hM, ext_take, lit_1, str_append, str_append, str_append, Dc.textB]
              simp only [hln]
              rw [if_neg h0, if_neg c1, if_neg (fun h => c2 ⟨h.1, by omega, h.2.2⟩), if_neg (fun h => c3 ⟨by have := h.2.1; omega, h.2.2⟩), if_neg h1]
              simp [List.take_of_length_le (show (Dc.digB l).length ≤ 1 by rw [Dc.digB_len]; omega)]
            have HV := Lib.hid hv
            have hadd1 := fun W => run_string_add_sum (P := Tryd.prog) (w := W) S (T.extract 0 1) (by rw [hT1]; omega)
            have hadd4 := fun W => run_string_add_sum (P := Tryd.prog) (w := W) (S ++ T.extract 0 1) ⟨#[101]⟩ (by rw [hT1, ByteArray.size_append, size_1]; omega)
            have hadd5 := fun W => run_string_add_sum (P := Tryd.prog) (w := W) (S ++ T.extract 0 1 ++ ⟨#[101]⟩) M (by rw [hT1, ByteArray.size_append, ByteArray.size_append, size_1]; omega)
            clear hS hT hcells hw2 hX hr hr2 hd hln hQ hv hM c1 c2 c3 h0 hT1 hT2 h1
            rcases hcase with ⟨k1, k2, k3, k4⟩ | ⟨k1, k2, k3, k4, k5⟩ | ⟨k1, k2, k3, k4, k5⟩
            all_goals try (exfalso; omega)
            all_goals
              go_enter Tryd.func14, Tryd.ntmps14
              go_upto_region 1 with fail
              rw [HW2.out, HXX.out]
              go_wp2_with fail
              refine (DG.out _ HR2.out).mono ?_
              rintro x w3 ⟨rfl, hb3⟩
              clear q0 q1 q2
              obtain ⟨q0, q1, q2, _⟩ := HC.out _ hb3
              go_wp2_with fail
              go_region_held3 (fun W => W.cell? ⟨X, 0, none⟩ = some (.bool g) ∧ W.cell? ⟨X, 1, none⟩ = some (.slice A n c) ∧ W.cell? ⟨X, 2, none⟩ = some (.int .i64 e) ∧ Below w2.heap.size w2 W)
                ((refine HC.out _ ?_; first | assumption | exact hb3.drew))
                (first | (go_at_call 44; refine (SG.out _).mono ?_; rintro x w7 ⟨rfl, hb7⟩; have hb7' := n3_trans (by assumption) hb7))
              all_goals
                clear q0 q1 q2
                obtain ⟨q0, q1, q2, _⟩ := HC.out _ hb7'
                go_wp2_with fail
                refine (NB.out _).mono ?_
                rintro x w8 ⟨rfl, hb8⟩
                go_wp2_with fail
                go_ret
                exact ⟨by rw [HV.out]; rfl, hb2.trans ((hb7'.trans (hb8.mono hb7'.size)).mono hb2.size)⟩
end Go.Proofs.YtmgafnflkfbckaaDoor
