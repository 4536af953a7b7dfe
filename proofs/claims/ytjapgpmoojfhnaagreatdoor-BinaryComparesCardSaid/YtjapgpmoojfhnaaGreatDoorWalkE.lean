/- strconv.FormatUint at base ten. -/
import Derived.Test.YtjapgpmoojfhnaaGreatDoorWalkD
import Derived.Lib.AppendIntMem
import Derived.Lib.ItoaMem
namespace Go.Proofs.YtjapgpmoojfhnaaGreatDoor
open Go.RowKit Go.Lib Go.Sort

set_option maxHeartbeats 2000000 in
set_option maxRecDepth 100000 in
theorem formatUint_in (u : Nat) (hu64 : u < 18446744073709551616) (w : World) (hL : Laid w) :
    Calls Tryz.prog 116 #[.int .u64 (u : Int), .int .i64 10] w fun x w' => x = .returned (.string ⟨(Lib.decDigits u).toArray⟩) ∧ Below w.heap.size w w' := by
  have htab := hL.1
  by_cases hu : u < 100
  · have iu : (u : Int) < 100 := by omega
    have hw : IntKind.i64.wrap (u : Int) = (u : Int) := IntWalk.i64_in _ (by omega)
    have SM := Lib.hid (fun W => Tryz.internal_strconv_small u hu W)
    clear hL htab
    go_enter Tryz.func116, Tryz.ntmps116
    go_wp2_with fail
    refine (SM.out _).mono ?_
    rintro e w' ⟨rfl, rfl⟩
    go_wp2_with fail
    go_ret
    exact ⟨rfl, Below.refl _ _⟩
  · have iu : ¬ (u : Int) < 100 := by omega
    have hu1 : 1 ≤ u := by omega
    have hnd20 : Lib.nDigits u ≤ 20 := by have := Lib.numDigits_eq u hu1 hu64; split at this <;> omega
    have hal : Tryz.prog.arrayLen 180 = 24 := by simp [Program.arrayLen, Tryz.underlying180]
    have hsl : ∀ W, (Instr.sliceAt 180 (.pointer (some ⟨w.heap.size, 0, none⟩)) none (some (.int .i64 (Lib.nDigits u : Int))) none).run Tryz.prog W = .ok (.slice (some ⟨w.heap.size, 0, none⟩) (Lib.nDigits u) 24) W := fun W => by
      rw [run_sliceAt_array_h W 180 ⟨w.heap.size, 0, none⟩ (by simp [Program.arrayLen, Program.elem, Tryz.underlying180]) .i64 (Lib.nDigits u : Int) (by omega) (by rw [hal]; omega)]
      go_simp
    have hH0 := Lib.holds_zero0 w 180 (Lib.nDigits u) (by omega)
    have hfmt := Tryz.internal_strconv_formatBase10 w.heap.size 0 24 u (Array.replicate (Lib.nDigits u) 0) (w.alloc (.cells Lib.zeros24 180)) hH0 (by rw [Array.size_replicate]; exact Lib.lt_pow_nDigits u) hu64 (by rw [Array.size_replicate]; omega)
    rw [Array.size_replicate] at hfmt
    have HH0 := Lib.hid hH0
    have HFM := Lib.hid hfmt
    have ND := Lib.hid (fun W (hW : Lib.TabIs Tryz.prog W "internal/strconv.uint64pow10" .u64 Lib.pow10Tab) => Tryz.internal_strconv_numDigits u hu1 hu64 W hW)
    have HT := Lib.hid htab
    clear hH0 hal hL htab hfmt
    go_enter Tryz.func116, Tryz.ntmps116
    go_wp2_with fail
    refine (ND.out _ (Lib.tabIs_alloc HT.out _)).mono ?_
    rintro e w' ⟨rfl, rfl⟩
    go_wp2_with fail
    refine (HFM.out).mono ?_
    rintro e w' ⟨rfl, k, v', dk, rfl, hF⟩
    have hcv : (convert 31 9 (.slice (some ⟨w.heap.size, 0, none⟩) (Lib.nDigits u) 24)).run Tryz.prog ((putRow (fun (b : UInt8) => Value.int .u8 (b.toNat : Int)) (w.alloc (.cells Lib.zeros24 180)) w.heap.size 0 dk).drewN k) = .ok (.string ⟨(Lib.decDigits u).toArray⟩) ((putRow (fun (b : UInt8) => Value.int .u8 (b.toNat : Int)) (w.alloc (.cells Lib.zeros24 180)) w.heap.size 0 dk).drewN k) := by
      have h := run_convert_bytes_back (P := Tryz.prog) ((putRow (fun (b : UInt8) => Value.int .u8 (b.toNat : Int)) (w.alloc (.cells Lib.zeros24 180)) w.heap.size 0 dk).drewN k) 31 9 5 ⟨w.heap.size, 0, none⟩ 24 (Lib.decDigits u) Tryz.underlying31 Tryz.underlying5 Tryz.underlying9 (fun j hj => by
        rw [Lib.row_is_numeral hF j hj, Lib.add_plain, World.cell?_drewN]
        exact cell?_putRow (fun (b : UInt8) => Value.int .u8 (b.toNat : Int)) _ w.heap.size 0 _ dk HH0.out (by rw [hF.size, Array.size_replicate]) j (by rw [hF.size]; rw [Lib.decDigits_length] at hj; exact hj))
      rw [Lib.decDigits_length] at h
      exact h
    obtain ⟨os, eo⟩ := Lib.fin_at w (.cells Lib.zeros24 180) dk k 0
    have hbl : Below w.heap.size w ((putRow (fun (b : UInt8) => Value.int .u8 (b.toNat : Int)) (w.alloc (.cells Lib.zeros24 180)) w.heap.size 0 dk).drewN k) := by rw [eo]; exact below_grow _ w (Nat.le_refl _) k os
    generalize (putRow (fun (b : UInt8) => Value.int .u8 (b.toNat : Int)) (w.alloc (.cells Lib.zeros24 180)) w.heap.size 0 dk).drewN k = W2 at hcv hbl ⊢
    clear eo HH0 HFM
    go_wp2_with fail
    go_ret
    exact ⟨rfl, hbl⟩
set_option maxRecDepth 100000 in
theorem formatUint_any (u : Nat) (hu64 : u < 18446744073709551616) (w : World) (hL : Laid w) :
    Calls Tryz.prog 72 #[.int .u64 (u : Int), .int .i64 10] w fun x w' => x = .returned (.string ⟨(Lib.decDigits u).toArray⟩) ∧ Below w.heap.size w w' := by
  have FI := Lib.hid (formatUint_in u hu64 w hL)
  clear hL
  go_enter Tryz.func72, Tryz.ntmps72
  go_wp2_with fail
  refine (FI.out).mono ?_
  rintro e w' ⟨rfl, hb⟩
  go_wp2_with fail
  go_ret
  exact ⟨rfl, hb⟩
end Go.Proofs.YtjapgpmoojfhnaaGreatDoor
