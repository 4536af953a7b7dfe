/- The reference: number. -/
import Derived.Test.YtmgafnflkfbckaaDoorWalkR
import Derived.Test.YtmgafnflkfbckaaDoorWalkD
namespace Go.Proofs.YtmgafnflkfbckaaDoor
open Go.RowKit Go.Lib

set_option maxHeartbeats 1000000 in
set_option maxRecDepth 100000 in
theorem numnat_small (u : Nat) (w : World) (h : u < 10) : Calls Tryd.prog 46 #[.int .i64 (u : Int)] w fun x w' => x = .returned (.string ⟨(Lib.decDigits u).toArray⟩) ∧ Below w.heap.size w w' := by
  obtain ⟨Z, hZ⟩ : ∃ Z : ByteArray, ⟨(Lib.decDigits u).toArray⟩ = Z := ⟨_, rfl⟩
  rw [hZ]
  have hn : ¬ (u : Int) < 0 := by omega
  have h9 : ¬ (9 : Int) < (u : Int) := by omega
  have hw : IntKind.u8.wrap (48 + (u : Int)) = 48 + (u : Int) := by rw [IntKind.wrap_u8]; omega
  have HZ := Lib.hid hZ
  clear hZ
  have hcv : ∀ W : World, W.cell? ⟨w.heap.size, 0, none⟩ = some (.int .u8 (48 + (u : Int))) → w.heap.size < W.heap.size → (convert 57 9 (.slice (some ⟨w.heap.size, 0, none⟩) 1 1)).run Tryd.prog W = .ok (.string Z) W := by
    intro W hc hlt
    have hR : Reads W W.heap.size (some ⟨w.heap.size, 0, none⟩) 1 (u8s [48 + u]) := by
      refine ⟨rfl, fun _ => ⟨w.heap.size, 0, rfl, hlt, fun j v hv => ?_⟩⟩
      match j, hv with
      | 0, hv =>
        simp [u8s] at hv
        rw [← hv]; exact hc
    have := conv_bytes (c := 1) hR (fun hh => by cases hh)
    rw [this, ← HZ.out, Lib.decDigits_one h]
    rfl
  have hcv2 := hcv (w.alloc (.cells #[.int .u8 (48 + (u : Int))] 5)) (at_block (heap_alloc_new w _) 0 _ rfl) (by simp)
  go_enter Tryd.func46, Tryd.ntmps46
  go_wp2
  go_ret
  exact ⟨rfl, (Below.refl _ _).alloc (Nat.le_refl _) _⟩
theorem dec_big {u : Nat} (h : ¬ u < 10) : (⟨(Lib.decDigits u).toArray⟩ : ByteArray) = ⟨(Lib.decDigits (u / 10)).toArray⟩ ++ ⟨(Lib.decDigits (u % 10)).toArray⟩ := by
  rw [str_append, Lib.decDigits_one (show u % 10 < 10 by omega)]
  conv => lhs; rw [Lib.decDigits, dif_neg h]
theorem dec_size (u : Nat) (h : u ≤ 1000000000000) : (⟨(Lib.decDigits u).toArray⟩ : ByteArray).size ≤ 13 := by
  rw [str_size]; exact dec_len u 12 (by omega)

set_option maxHeartbeats 1000000 in
set_option maxRecDepth 100000 in
theorem numnat_any (u : Nat) (hu : u ≤ 1000000000000) : ∀ w : World, Calls Tryd.prog 46 #[.int .i64 (u : Int)] w fun x w' => x = .returned (.string ⟨(Lib.decDigits u).toArray⟩) ∧ Below w.heap.size w w' := by
  induction u using Nat.strongRecOn with
  | _ u ih =>
    intro w
    by_cases h : u < 10
    · exact numnat_small u w h
    · obtain ⟨S, hS⟩ : ∃ S : ByteArray, ⟨(Lib.decDigits (u / 10)).toArray⟩ = S := ⟨_, rfl⟩
      obtain ⟨T, hT⟩ : ∃ T : ByteArray, ⟨(Lib.decDigits (u % 10)).toArray⟩ = T := ⟨_, rfl⟩
      rw [dec_big h, hS, hT]
      have hSs : S.size ≤ 13 := by rw [← hS]; exact dec_size _ (by omega)
      have hTs : T.size ≤ 13 := by rw [← hT]; exact dec_size _ (by omega)
      have I1 := ih (u / 10) (by omega) (by omega)
      have I2 := ih (u % 10) (by omega) (by omega)
      rw [hS] at I1
      rw [hT] at I2
      obtain ⟨q, hq⟩ : ∃ q, u / 10 = q := ⟨_, rfl⟩
      obtain ⟨r, hr⟩ : ∃ r, u % 10 = r := ⟨_, rfl⟩
      rw [hq] at I1
      rw [hr] at I2
      have hn : ¬ (u : Int) < 0 := by omega
      have h9 : (9 : Int) < (u : Int) := by omega
      have hdv : Int.tdiv (u : Int) 10 = (q : Int) := by rw [Int.tdiv_eq_ediv_of_nonneg (by omega)]; omega
      have hmd : Int.tmod (u : Int) 10 = (r : Int) := by rw [Int.tmod_eq_emod_of_nonneg (by omega)]; omega
      have HI1 := Lib.hid I1
      have HI2 := Lib.hid I2
      have HDV := Lib.hid (And.intro hdv hmd)
      have hqd : (u : Int) / 10 = (q : Int) := by omega
      have hrd : (u : Int) % 10 = (r : Int) := by omega
      have HQ := Lib.hid (And.intro hqd hrd)
      clear I1 I2 hS hT hq hr ih h hdv hmd hqd hrd
      go_enter Tryd.func46, Tryd.ntmps46
      go_wp2_with fail
      try rw [HDV.out.1]
      try rw [HQ.out.1]
      refine (HI1.out _).mono ?_
      rintro x w7 ⟨rfl, hb7⟩
      go_wp2_with fail
      try rw [HDV.out.2]
      try rw [HQ.out.2]
      refine (HI2.out _).mono ?_
      rintro x w8 ⟨rfl, hb8⟩
      go_wp2_with fail
      go_ret
      exact ⟨rfl, hb7.trans (hb8.mono hb7.size)⟩

set_option maxHeartbeats 1000000 in
set_option maxRecDepth 100000 in
theorem number_any (n : Int) (w : World) (h0 : -1000000000000 ≤ n) (h1 : n ≤ 1000000000000) : Calls Tryd.prog 46 #[.int .i64 n] w fun x w' => x = .returned (.string ⟨(Lib.itoa n).toArray⟩) ∧ Below w.heap.size w w' := by
  by_cases hn : n < 0
  · obtain ⟨u, hu⟩ : ∃ u : Nat, n.natAbs = u := ⟨_, rfl⟩
    have hnu : n = -(u : Int) := by omega
    obtain ⟨S, hS⟩ : ∃ S : ByteArray, ⟨(Lib.decDigits u).toArray⟩ = S := ⟨_, rfl⟩
    have he : (⟨(Lib.itoa n).toArray⟩ : ByteArray) = ⟨#[45]⟩ ++ S := by
      rw [← hS, show (⟨#[45]⟩ : ByteArray) = ⟨([45] : List UInt8).toArray⟩ from rfl, str_append, Lib.itoa, if_pos hn, hu]
      rfl
    have hSs : S.size ≤ 13 := by rw [← hS]; exact dec_size _ (by omega)
    have I1 := numnat_any u (by omega)
    rw [hS] at I1
    rw [he]
    have hadd := fun W => run_string_add_sum (P := Tryd.prog) (w := W) ⟨#[45]⟩ S (by rw [show (ByteArray.mk #[45]).size = 1 from rfl]; omega)
    have HI := Lib.hid I1
    have hneg : -n = (u : Int) := by omega
    have HN := Lib.hid hneg
    clear I1 hS he hu hnu hneg
    go_enter Tryd.func46, Tryd.ntmps46
    go_wp2_with fail
    rw [HN.out]
    refine (HI.out _).mono ?_
    rintro x w7 ⟨rfl, hb7⟩
    go_wp2_with fail
    go_ret
    exact ⟨rfl, hb7⟩
  · obtain ⟨u, hu⟩ : ∃ u : Nat, n = (u : Int) := ⟨n.toNat, by omega⟩
    subst hu
    have := numnat_any u (by omega) w
    rw [Lib.itoa_nonneg]
    exact this
end Go.Proofs.YtmgafnflkfbckaaDoor
