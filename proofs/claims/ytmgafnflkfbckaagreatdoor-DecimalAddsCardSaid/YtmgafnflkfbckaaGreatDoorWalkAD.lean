/- The contract of Text. -/
import Derived.Test.YtmgafnflkfbckaaGreatDoorWalkAC
import Derived.Test.YtmgafnflkfbckaaGreatDoorWalkH
import Derived.Test.YtmgafnflkfbckaaGreatDoorWalkP
import Derived.Deep.QuietTactic
import Derived.BigQuiet
namespace Go.Proofs.YtmgafnflkfbckaaGreatDoor
open Go.RowKit Go.Lib

theorem below_drewN' {B : Nat} {w w' : World} (h : Below B w w') (n : Nat) : Below B w (w'.drewN n) := by
  obtain ⟨a, b, c, d, e⟩ := h
  exact ⟨a, b, c, d, e⟩
theorem repeat_zeros (k : Nat) : Lib.repeatL (⟨#[48]⟩ : ByteArray).data.toList k = List.replicate k 48 := by
  induction k with
  | zero => rfl
  | succ k ih => rw [Lib.repeatL, ih, List.replicate_succ]; rfl
set_option maxHeartbeats 2000000 in
set_option maxRecDepth 100000 in
theorem text12_some (s : ByteArray) (y : Dc.D) (w : World) (hs : s.size ≤ 536870912) (hL : Laid w) (hy : Dc.readP s.data.toList = some y) :
    Calls Tryz.prog 16 #[.string s] w fun x w' => x = .returned (.string ⟨(Dc.textB y).toArray⟩) ∧ Below w.heap.size w w' := by
  have RD := read_some s w hs hL y hy
  obtain ⟨hcn, hc1, hc2, hc3⟩ := Dc.canon_bound (Dc.readP_some hy).1
  obtain ⟨g, l, e, n, hg, hl, hee, hln, hyy⟩ := num_letters y
  rw [hl, hg, hee, hln] at RD
  rw [hl] at hcn hc1
  rw [hee] at hc2 hc3
  rw [hln] at hc1
  have hd := hcn
  have hn : n ≤ 400 := hc1
  have he : -2000 ≤ e ∧ e ≤ 2000 := ⟨hc2, hc3⟩
  rw [hyy]
  obtain ⟨Q, hQ⟩ : ∃ Q : ByteArray, ⟨(Dc.textB ⟨g, l, e⟩).toArray⟩ = Q := ⟨_, rfl⟩
  rw [hQ]
  obtain ⟨S, hS⟩ : ∃ S : ByteArray, ⟨(Dc.sgnB g).toArray⟩ = S := ⟨_, rfl⟩
  obtain ⟨T, hT⟩ : ∃ T : ByteArray, ⟨(Dc.digB l).toArray⟩ = T := ⟨_, rfl⟩
  have hSs : S.size ≤ 1 := by rw [← hS, str_size]; exact sgn_len g
  have hTs : T.size = n := by rw [← hT, str_size, Dc.digB_len, hln]
  have SG := fun A W => sign_any g A n n e W
  have DG := fun A W hW => digits_any g A n l e W hW hd (by omega)
  rw [hS] at SG
  rw [hT] at DG
  have RD := Lib.hid RD
  have HL := Lib.hid hL
  have HQ := Lib.hid hQ
  have HS := Lib.hid hS
  have HT := Lib.hid hT
  have HLN := Lib.hid hln
  have SG0 := Lib.hid SG
  have DG := Lib.hid DG
  clear hy hcn hc1 hc2 hc3 hg hl hee hyy hL hQ hS hT hln SG hd
  go_enter Tryz.func16, Tryz.ntmps16
  go_wp2_with fail
  refine (RD.out).mono ?_
  rintro x w1 ⟨A, rfl, hr1, hb1⟩
  obtain ⟨w2, X, hw2, hX, hb2, hX2, hcells⟩ := box_num g A n n e w1
  have hb12 := hb1.trans (hb2.mono hb1.size)
  have HW2 := Lib.hid hw2
  have HXX := Lib.hid hX
  have HC := Lib.hid hcells
  have HR2 := Lib.hid (hr1.on hb2)
  have HL2 := Lib.hid (HL.out.on hb12)
  have hd2 : Below w2.heap.size w2 w2 := Below.refl _ _
  have SG := Lib.hid (SG0.out A)
  clear hw2 hX hr1 hcells
  go_upto_region 4 with fail
  rw [HW2.out, HXX.out]
  go_cut [5, 6] (fun t5 t6 wx => t5 = .string T ∧ t6 = .int .i64 (n : Int) ∧ Below w2.heap.size w2 wx)
  case first =>
    go_region_held3 (fun W => W.cell? ⟨X, 0, none⟩ = some (.bool g) ∧ W.cell? ⟨X, 1, none⟩ = some (.slice A n n) ∧ W.cell? ⟨X, 2, none⟩ = some (.int .i64 e) ∧ Below w2.heap.size w2 W)
      ((refine HC.out _ ?_; first | assumption | exact hd2.drew))
      (first | (go_at_call 32; refine (DG.out A _ (HR2.out.on (n3 (by assumption)))).mono ?_; rintro x w7 ⟨rfl, hb7⟩; have hb7' := n3_trans (by assumption) hb7))
    all_goals
      go_wp2_with fail
      go_meet
      exact ⟨rfl, rfl, hb7'⟩
  case rest =>
    obtain ⟨rfl, rfl, hb3⟩ := hcut
    obtain ⟨w3, hw3⟩ : ∃ W, W = wc := ⟨_, rfl⟩
    subst hw3
    obtain ⟨q0, q1, q2, _⟩ := HC.out _ hb3
    by_cases h0 : n = 0
    · have hv : Q = ⟨#[48, 46, 48]⟩ := by rw [← HQ.out, Dc.textB, if_pos (by simp only [HLN.out]; exact h0)]
      have HV := Lib.hid hv
      subst h0
      clear hv hTs
      go_wp2
      go_ret
      exact ⟨by rw [HV.out]; rfl, hb12.trans (hb3.mono hb12.size)⟩
    · have h0f : ((n : Int) == 0) = false := by simp; omega
      have hn0 : (1 : Int) ≤ (n : Int) := by omega
      by_cases c1 : 0 ≤ e ∧ (n : Int) + e + 1 ≤ 20
      · obtain ⟨k, rfl⟩ : ∃ k : Nat, e = (k : Int) := ⟨e.toNat, by omega⟩
        have hkk : (n : Int) + (k : Int) + 1 ≤ 20 := c1.2
        have hk0 : (0 : Int) ≤ (k : Int) := by omega
        obtain ⟨Z, hZ⟩ : ∃ Z : ByteArray, ⟨(List.replicate k (48 : UInt8)).toArray⟩ = Z := ⟨_, rfl⟩
        have hZs : Z.size = k := by rw [← hZ, str_size, List.length_replicate]
        have ZE := fun W => Tryz.strings_Repeat ⟨#[48]⟩ k W (by omega) (by rw [size_1]; omega)
        rw [repeat_zeros, hZ] at ZE
        have ZE := Lib.hid ZE
        have hv : Q = S ++ T ++ Z ++ ⟨#[46, 48]⟩ := by
          rw [← HQ.out, ← HS.out, ← HT.out, ← hZ, lit_2, str_append, str_append, str_append, Dc.textB]
          simp only [HLN.out]
          rw [if_neg h0, if_pos c1]
          simp
        have HV := Lib.hid hv
        have hadd1 := fun W => run_string_add_sum (P := Tryz.prog) (w := W) S T (by omega)
        have hadd2 := fun W => run_string_add_sum (P := Tryz.prog) (w := W) (S ++ T) Z (by rw [ByteArray.size_append]; omega)
        have hadd3 := fun W => run_string_add_sum (P := Tryz.prog) (w := W) (S ++ T ++ Z) ⟨#[46, 48]⟩ (by rw [ByteArray.size_append, ByteArray.size_append, size_2]; omega)
        clear hv hZ c1 h0
        go_wp2_with fail
        go_region_held3 (fun W => W.cell? ⟨X, 0, none⟩ = some (.bool g) ∧ W.cell? ⟨X, 1, none⟩ = some (.slice A n n) ∧ W.cell? ⟨X, 2, none⟩ = some (.int .i64 (k : Int)) ∧ Below w2.heap.size w2 W)
          ((refine HC.out _ ?_; first | assumption | exact hb3.drew))
          (first | (go_at_call 33; refine (SG.out _).mono ?_; rintro x w7 ⟨rfl, hb7⟩; have hb7' := n3_trans (by assumption) hb7) | (go_at_call 34; refine (ZE.out _).mono ?_; rintro x w8 ⟨rfl, hb8⟩; have hb8' := n3_trans (by assumption) hb8))
        all_goals
          go_wp2_with fail
          go_ret
          exact ⟨by rw [HV.out]; rfl, hb12.trans (hb8'.mono hb12.size)⟩
      · by_cases c2 : e < 0 ∧ -e < (n : Int) ∧ n ≤ 20
        · obtain ⟨k, hk⟩ : ∃ k : Nat, (n : Int) + e = (k : Int) := ⟨((n : Int) + e).toNat, by omega⟩
          have hv : Q = S ++ T.extract 0 k ++ ⟨#[46]⟩ ++ T.extract k n := by
            rw [← hTs, ← HQ.out, ← HS.out, ← HT.out, ext_take, ext_drop, lit_1, str_append, str_append, str_append, Dc.textB]
            simp only [HLN.out]
            rw [if_neg h0, if_neg c1, if_pos ⟨c2.1, by omega, c2.2.2⟩, hk]
            simp
          have HV := Lib.hid hv
          have hen : e < 0 := c2.1
          have hen2 : -e < (n : Int) := c2.2.1
          have hn20 : (n : Int) ≤ 20 := by omega
          have hkw : IntKind.i64.wrap ((n : Int) + e) = (k : Int) := by rw [hk]; exact IntWalk.i64_in _ (by omega)
          have hk0 : (0 : Int) ≤ (k : Int) := by omega
          have hkn : (k : Int) ≤ (n : Int) := by omega
          have hx1 : (T.extract 0 k).size = k := by rw [ByteArray.size_extract]; omega
          have hx2 : (T.extract k n).size ≤ n := by rw [ByteArray.size_extract]; omega
          obtain ⟨T1, hT1⟩ : ∃ T1, T.extract 0 k = T1 := ⟨_, rfl⟩
          obtain ⟨T2, hT2⟩ : ∃ T2, T.extract k n = T2 := ⟨_, rfl⟩
          rw [hT1] at hx1
          rw [hT2] at hx2
          have hadd1 := fun W => run_string_add_sum (P := Tryz.prog) (w := W) S (T.extract 0 k) (by rw [hT1]; omega)
          have hadd2 := fun W => run_string_add_sum (P := Tryz.prog) (w := W) (S ++ T.extract 0 k) ⟨#[46]⟩ (by rw [hT1, ByteArray.size_append, size_1]; omega)
          have hadd3 := fun W => run_string_add_sum (P := Tryz.prog) (w := W) (S ++ T.extract 0 k ++ ⟨#[46]⟩) (T.extract k n) (by rw [hT1, hT2, ByteArray.size_append, ByteArray.size_append, size_1]; omega)
          clear hv c1 c2 h0 hk hT1 hT2
          go_wp2_with fail
          go_region_held3 (fun W => W.cell? ⟨X, 0, none⟩ = some (.bool g) ∧ W.cell? ⟨X, 1, none⟩ = some (.slice A n n) ∧ W.cell? ⟨X, 2, none⟩ = some (.int .i64 e) ∧ Below w2.heap.size w2 W)
            ((refine HC.out _ ?_; first | assumption | exact hb3.drew))
            (first | (go_at_call 33; refine (SG.out _).mono ?_; rintro x w7 ⟨rfl, hb7⟩; have hb7' := n3_trans (by assumption) hb7))
          all_goals
            go_wp2_with fail
            go_ret
            exact ⟨by rw [HV.out]; rfl, hb12.trans (hb7'.mono hb12.size)⟩
        · by_cases c3 : e < 0 ∧ (n : Int) ≤ -e ∧ 1 - e ≤ 20
          · obtain ⟨k, hk⟩ : ∃ k : Nat, -e - (n : Int) = (k : Int) := ⟨(-e - (n : Int)).toNat, by omega⟩
            obtain ⟨Z, hZ⟩ : ∃ Z : ByteArray, ⟨(List.replicate k (48 : UInt8)).toArray⟩ = Z := ⟨_, rfl⟩
            have hZs : Z.size = k := by rw [← hZ, str_size, List.length_replicate]
            have ZE := fun W => Tryz.strings_Repeat ⟨#[48]⟩ k W (by omega) (by rw [size_1]; omega)
            rw [repeat_zeros, hZ, ← hk] at ZE
            have ZE := Lib.hid ZE
            have hkw : IntKind.i64.wrap (-e - (n : Int)) = -e - (n : Int) := IntWalk.i64_in _ (by omega)
            have hkw2 : IntKind.i64.wrap (-e) = -e := IntWalk.i64_in _ (by omega)
            have hv : Q = S ++ ⟨#[48, 46]⟩ ++ Z ++ T := by
              rw [← HQ.out, ← HS.out, ← HT.out, ← hZ, lit_2, str_append, str_append, str_append, Dc.textB]
              simp only [HLN.out]
              rw [if_neg h0, if_neg c1, if_neg c2, if_pos c3, hk]
              simp
            have HV := Lib.hid hv
            have hen : e < 0 := by omega
            have hen3 : (n : Int) ≤ -e := c3.2.1
            have hen2 : ¬ -e < (n : Int) := by omega
            have h120 : 1 - e ≤ 20 := c3.2.2
            have hadd1 := fun W => run_string_add_sum (P := Tryz.prog) (w := W) S ⟨#[48, 46]⟩ (by rw [size_2]; omega)
            have hadd2 := fun W => run_string_add_sum (P := Tryz.prog) (w := W) (S ++ ⟨#[48, 46]⟩) Z (by rw [ByteArray.size_append, size_2]; omega)
            have hadd3 := fun W => run_string_add_sum (P := Tryz.prog) (w := W) (S ++ ⟨#[48, 46]⟩ ++ Z) T (by rw [ByteArray.size_append, ByteArray.size_append, size_2]; omega)
            clear hv hZ c1 c2 c3 h0 hk
            go_wp2_with fail
            go_region_held3 (fun W => W.cell? ⟨X, 0, none⟩ = some (.bool g) ∧ W.cell? ⟨X, 1, none⟩ = some (.slice A n n) ∧ W.cell? ⟨X, 2, none⟩ = some (.int .i64 e) ∧ Below w2.heap.size w2 W)
              ((refine HC.out _ ?_; first | assumption | exact hb3.drew))
              (first | (go_at_call 33; refine (SG.out _).mono ?_; rintro x w7 ⟨rfl, hb7⟩; have hb7' := n3_trans (by assumption) hb7) | (go_at_call 34; refine (ZE.out _).mono ?_; rintro x w8 ⟨rfl, hb8⟩; have hb8' := n3_trans (by assumption) hb8))
            all_goals
              go_wp2_with fail
              go_ret
              exact ⟨by rw [HV.out]; rfl, hb12.trans (hb8'.mono hb12.size)⟩
          · have hx1 : (T.extract 0 1).size ≤ 1 := by rw [ByteArray.size_extract]; omega
            have hx2 : (T.extract 1 n).size ≤ n := by rw [ByteArray.size_extract]; omega
            obtain ⟨T1, hT1⟩ : ∃ T1, T.extract 0 1 = T1 := ⟨_, rfl⟩
            obtain ⟨T2, hT2⟩ : ∃ T2, T.extract 1 n = T2 := ⟨_, rfl⟩
            rw [hT1] at hx1
            rw [hT2] at hx2
            obtain ⟨M, hM⟩ : ∃ M : ByteArray, ⟨(Lib.itoa (e + (n : Int) - 1)).toArray⟩ = M := ⟨_, rfl⟩
            have hMs : M.size ≤ 20 := by rw [← hM, str_size]; exact itoa_len _ (by omega) (by omega)
            have NB := fun W hW => itoa_any (e + (n : Int) - 1) (by omega) (by omega) W hW
            rw [hM] at NB
            have NB := Lib.hid NB
            have hw1 : IntKind.i64.wrap (e + (n : Int)) = e + (n : Int) := IntWalk.i64_in _ (by omega)
            have hw2 : IntKind.i64.wrap (e + (n : Int) - 1) = e + (n : Int) - 1 := IntWalk.i64_in _ (by omega)
            have hcase : (0 ≤ e ∧ ¬ (n : Int) + e + 1 ≤ 20 ∧ ¬ e < 0) ∨ (e < 0 ∧ ¬ 0 ≤ e ∧ -e < (n : Int) ∧ ¬ (n : Int) ≤ 20 ∧ ¬ (n : Int) ≤ -e) ∨ (e < 0 ∧ ¬ 0 ≤ e ∧ ¬ -e < (n : Int) ∧ (n : Int) ≤ -e ∧ ¬ 1 - e ≤ 20) := by omega
            have HW12 := Lib.hid (And.intro hw1 hw2)
            clear hw1 hw2
            by_cases h1 : 1 < n
            · have hn1 : (1 : Int) < (n : Int) := by omega
              have hv : Q = S ++ (T.extract 0 1 ++ ⟨#[46]⟩ ++ T.extract 1 n) ++ ⟨#[101]⟩ ++ M := by
                rw [← hTs, ← HQ.out, ← HS.out, ← HT.out, ← hM, ext_take, ext_drop, lit_1, lit_1, str_append, str_append, str_append, str_append, str_append, Dc.textB]
                simp only [HLN.out]
                rw [if_neg h0, if_neg c1, if_neg c2, if_neg c3, if_pos h1]
                simp
              have HV := Lib.hid hv
              have hadd1 := fun W => run_string_add_sum (P := Tryz.prog) (w := W) (T.extract 0 1) ⟨#[46]⟩ (by rw [hT1, size_1]; omega)
              have hadd2 := fun W => run_string_add_sum (P := Tryz.prog) (w := W) (T.extract 0 1 ++ ⟨#[46]⟩) (T.extract 1 n) (by rw [hT1, hT2, ByteArray.size_append, size_1]; omega)
              have hadd3 := fun W => run_string_add_sum (P := Tryz.prog) (w := W) S (T.extract 0 1 ++ ⟨#[46]⟩ ++ T.extract 1 n) (by rw [hT1, hT2, ByteArray.size_append, ByteArray.size_append, size_1]; omega)
              have hadd4 := fun W => run_string_add_sum (P := Tryz.prog) (w := W) (S ++ (T.extract 0 1 ++ ⟨#[46]⟩ ++ T.extract 1 n)) ⟨#[101]⟩ (by rw [hT1, hT2, ByteArray.size_append, ByteArray.size_append, ByteArray.size_append, size_1, size_1]; omega)
              have hadd5 := fun W => run_string_add_sum (P := Tryz.prog) (w := W) (S ++ (T.extract 0 1 ++ ⟨#[46]⟩ ++ T.extract 1 n) ++ ⟨#[101]⟩) M (by rw [hT1, hT2, ByteArray.size_append, ByteArray.size_append, ByteArray.size_append, ByteArray.size_append, size_1, size_1]; omega)
              clear hv hM c1 c2 c3 h0 hT1 hT2 h1
              rcases hcase with ⟨k1, k2, k3⟩ | ⟨k1, k2, k3, k4, k5⟩ | ⟨k1, k2, k3, k4, k5⟩
              all_goals
                go_wp2_with fail
                go_quiet (fail)
                have hw1 := HW12.out.1
                have hw2 := HW12.out.2
                go_wp2_with fail
                go_region_held3 (fun W => W.cell? ⟨X, 0, none⟩ = some (.bool g) ∧ W.cell? ⟨X, 1, none⟩ = some (.slice A n n) ∧ W.cell? ⟨X, 2, none⟩ = some (.int .i64 e) ∧ Below w2.heap.size w2 W)
                  ((refine HC.out _ ?_; first | assumption | exact hb3.drew | exact below_drewN' hb3 _ | exact (below_drewN' hb3 _).drew))
                  (first | (go_at_call 33; refine (SG.out _).mono ?_; rintro x w7 ⟨rfl, hb7⟩; have hb7' := n3_trans (by assumption) hb7) | (go_at_call 35; refine (NB.out _ (HL2.out.on (n3 (by assumption)))).mono ?_; rintro x w8 ⟨rfl, hb8⟩; have hb8' := n3_trans (by assumption) hb8))
                all_goals
                  go_wp2_with fail
                  go_ret
                  exact ⟨by rw [HV.out]; rfl, hb12.trans (hb8'.mono hb12.size)⟩
            · have hn1 : ¬ (1 : Int) < (n : Int) := by omega
              have hv : Q = S ++ T ++ ⟨#[101]⟩ ++ M := by
                rw [← HQ.out, ← HS.out, ← HT.out, ← hM, lit_1, str_append, str_append, str_append, Dc.textB]
                simp only [HLN.out]
                rw [if_neg h0, if_neg c1, if_neg c2, if_neg c3, if_neg h1]
                simp
              have HV := Lib.hid hv
              have hadd1 := fun W => run_string_add_sum (P := Tryz.prog) (w := W) S T (by omega)
              have hadd2 := fun W => run_string_add_sum (P := Tryz.prog) (w := W) (S ++ T) ⟨#[101]⟩ (by rw [ByteArray.size_append, size_1]; omega)
              have hadd3 := fun W => run_string_add_sum (P := Tryz.prog) (w := W) (S ++ T ++ ⟨#[101]⟩) M (by rw [ByteArray.size_append, ByteArray.size_append, size_1]; omega)
              clear hv hM c1 c2 c3 h0 hT1 hT2 h1
              rcases hcase with ⟨k1, k2, k3⟩ | ⟨k1, k2, k3, k4, k5⟩ | ⟨k1, k2, k3, k4, k5⟩
              all_goals try (exfalso; omega)
              all_goals
                have hw1 := HW12.out.1
                have hw2 := HW12.out.2
                go_wp2_with fail
                go_region_held3 (fun W => W.cell? ⟨X, 0, none⟩ = some (.bool g) ∧ W.cell? ⟨X, 1, none⟩ = some (.slice A n n) ∧ W.cell? ⟨X, 2, none⟩ = some (.int .i64 e) ∧ Below w2.heap.size w2 W)
                  ((refine HC.out _ ?_; first | assumption | exact hb3.drew))
                  (first | (go_at_call 33; refine (SG.out _).mono ?_; rintro x w7 ⟨rfl, hb7⟩; have hb7' := n3_trans (by assumption) hb7) | (go_at_call 35; refine (NB.out _ (HL2.out.on (n3 (by assumption)))).mono ?_; rintro x w8 ⟨rfl, hb8⟩; have hb8' := n3_trans (by assumption) hb8))
                all_goals
                  go_wp2_with fail
                  go_ret
                  exact ⟨by rw [HV.out]; rfl, hb12.trans (hb8'.mono hb12.size)⟩
end Go.Proofs.YtmgafnflkfbckaaGreatDoor
