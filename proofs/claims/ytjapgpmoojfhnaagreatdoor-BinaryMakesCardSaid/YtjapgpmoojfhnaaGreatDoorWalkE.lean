/- The significand and the exponent of a float. strconv.FormatUint at base ten. -/
import Derived.Test.YtjapgpmoojfhnaaGreatDoorWalkC
import Derived.Lib.AppendIntMem
import Derived.Lib.ItoaMem
namespace Go.Proofs.YtjapgpmoojfhnaaGreatDoor
open Go.RowKit Go.Lib

theorem and_frac (r : Nat) (h : r < 18446744073709551616) : bits .and .u64 (r : Int) 4503599627370495 = ((r % 4503599627370496 : Nat) : Int) := by
  have h1 := u64_and_nat r 4503599627370495 h (by decide)
  have e : r &&& 4503599627370495 = r % 4503599627370496 := Nat.and_two_pow_sub_one_eq_mod r 52
  rw [e] at h1
  exact h1
theorem or_one (F : Nat) (hF : F < 4503599627370496) : bits .or .u64 (F : Int) 4503599627370496 = ((4503599627370496 + F : Nat) : Int) := by
  have h := or_exp F 1 hF (by decide)
  rw [Nat.one_mul] at h
  exact h
/-- The odd part of a number and how often two divides it. -/
def tzN (m : Nat) : Nat := Lib.ctz 64 m
theorem tz_spec {m : Nat} (h0 : 0 < m) (h : m < 18446744073709551616) : ∃ k, m = 2 ^ tzN m * (2 * k + 1) ∧ tzN m < 64 := by
  unfold tzN Lib.ctz
  rw [if_neg (by omega)]
  exact Lib.ctzFrom_spec 64 m h0 h
set_option maxHeartbeats 1000000 in
set_option maxRecDepth 100000 in
theorem split_any (b : Nat) (w : World) (hb : b < 18446744073709551616) (h0 : 0 < b % 9223372036854775808) (hr : b % 9223372036854775808 < 9218868437227405312) (hL : Laid w) :
    Calls Tryz.prog 66 #[.float .f64 b] w fun x w' => x = .returned (.tuple #[.int .u64 ((Fl.rmag Ieee.double (b % 9223372036854775808) / 2 ^ tzN (Fl.rmag Ieee.double (b % 9223372036854775808)) : Nat) : Int), .int .i64 (Fl.rplace Ieee.double (b % 9223372036854775808) + (tzN (Fl.rmag Ieee.double (b % 9223372036854775808)) : Nat))]) ∧ w' = w := by
  have AB := Lib.hid (fun W => abs_any b W hb)
  obtain ⟨r, hrr⟩ : ∃ r, b % 9223372036854775808 = r := ⟨_, rfl⟩
  rw [hrr] at AB h0 hr ⊢
  have f0 := fun W => run_bits r W
  have f1 := and_frac r (by omega)
  obtain ⟨q, hq⟩ : ∃ q, r / 4503599627370496 = q := ⟨_, rfl⟩
  obtain ⟨F, hF⟩ : ∃ F, r % 4503599627370496 = F := ⟨_, rfl⟩
  have f2 : (r : Int) / 4503599627370496 = (q : Int) := by omega
  have f3 : IntKind.i64.wrap (q : Int) = (q : Int) := IntWalk.i64_in _ (by omega)
  rw [hF] at f1
  obtain ⟨M, hM⟩ : ∃ M, Fl.rmag Ieee.double r = M := ⟨_, rfl⟩
  obtain ⟨p, hp⟩ : ∃ p, Fl.rplace Ieee.double r = p := ⟨_, rfl⟩
  have hM0 : 0 < M := by rw [← hM]; exact Fl.rmag_pos h0
  have hM2 : M < 9007199254740992 := by rw [← hM]; exact Fl.rmag_lt Ieee.double r
  have TZ := Lib.hid (fun W (hW : Laid W) => tz_any M (by omega) W hW.2.2.2.2.1)
  rw [hM, hp]
  obtain ⟨z, hz⟩ : ∃ z, tzN M = z := ⟨_, rfl⟩
  have hz64 : z < 64 := by obtain ⟨_, _, h⟩ := tz_spec hM0 (by omega); rw [← hz]; exact h
  rw [show Lib.ctz 64 M = z from hz] at TZ
  rw [hz]
  have HL := Lib.hid hL
  by_cases hsub : r < 4503599627370496
  · have eM : M = F := by rw [← hM]; unfold Fl.rmag; rw [Fl.d_binade, if_pos hsub]; omega
    have ep : p = -1074 := by rw [← hp]; unfold Fl.rplace; rw [Fl.d_binade, if_pos hsub, Fl.d_least]
    have q0 : ((q : Int) == 0) = true := by rw [beq_iff_eq]; omega
    subst eM ep
    have f4 : IntKind.i64.wrap (-1074 + (z : Int)) = -1074 + (z : Int) := IntWalk.i64_in _ (by omega)
    have hz0 : (0 : Int) ≤ (z : Int) := by omega
    clear hrr hq hF hM hp hM0 hM2 hz hL h0 hr hb hsub
    go_enter Tryz.func66, Tryz.ntmps66
    go_wp2_with fail
    refine (AB.out _).mono ?_
    rintro x w1 ⟨rfl, rfl⟩
    go_wp2_with fail
    refine (TZ.out _ HL.out).mono ?_
    rintro x w2 ⟨rfl, rfl⟩
    go_wp2_with fail
    go_ret2
    exact ⟨by simp, rfl⟩
  · have eM : M = 4503599627370496 + F := by rw [← hM]; unfold Fl.rmag; rw [Fl.d_binade, if_neg hsub, hF]
    have ep : p = (q : Int) - 1075 := by rw [← hp]; unfold Fl.rplace; rw [Fl.d_binade, if_neg hsub, Fl.d_least]; omega
    have q0 : ((q : Int) == 0) = false := by rw [beq_eq_false_iff_ne]; omega
    have f5 := or_one F (by omega)
    rw [← eM] at f5
    have f6 : IntKind.i64.wrap ((q : Int) - 1075) = p := by rw [ep]; exact IntWalk.i64_in _ (by omega)
    have f4 : IntKind.i64.wrap (p + (z : Int)) = p + (z : Int) := IntWalk.i64_in _ (by omega)
    have hz0 : (0 : Int) ≤ (z : Int) := by omega
    clear hrr hq hF hM hp hM0 hM2 hz hL h0 hr hb hsub eM ep
    go_enter Tryz.func66, Tryz.ntmps66
    go_wp2_with fail
    refine (AB.out _).mono ?_
    rintro x w1 ⟨rfl, rfl⟩
    go_wp2_with fail
    refine (TZ.out _ HL.out).mono ?_
    rintro x w2 ⟨rfl, rfl⟩
    go_wp2_with fail
    go_ret2
    exact ⟨by simp, rfl⟩
end Go.Proofs.YtjapgpmoojfhnaaGreatDoor

namespace Go.Proofs.YtjapgpmoojfhnaaGreatDoor
open Go.RowKit Go.Lib Go.Sort

set_option maxHeartbeats 2000000 in
set_option maxRecDepth 100000 in
theorem formatUint_in (u : Nat) (hu64 : u < 18446744073709551616) (w : World) (hL : Laid w) :
    Calls Tryz.prog 116 #[.int .u64 (u : Int), .int .i64 10] w fun x w' => x = .returned (.string ⟨(Lib.decDigits u).toArray⟩) ∧ Below w.heap.size w w' := by
  have htab := hL.1
  by_cases hu : u < 100
  · have iu : (u : Int) < 100 := by omega
    have hw : IntKind.i64.wrap (u : Int) = (u : Int) := IntWalk.i64_in _ (by omega)
    have SM := Lib.hid (fun W => Tryz.internal_strconv_small u hu W)
    clear hL htab
    go_enter Tryz.func116, Tryz.ntmps116
    go_wp2_with fail
    refine (SM.out _).mono ?_
    rintro e w' ⟨rfl, rfl⟩
    go_wp2_with fail
    go_ret
    exact ⟨rfl, Below.refl _ _⟩
  · have iu : ¬ (u : Int) < 100 := by omega
    have hu1 : 1 ≤ u := by omega
    have hnd20 : Lib.nDigits u ≤ 20 := by have := Lib.numDigits_eq u hu1 hu64; split at this <;> omega
    have hal : Tryz.prog.arrayLen 180 = 24 := by simp [Program.arrayLen, Tryz.underlying180]
    have hsl : ∀ W, (Instr.sliceAt 180 (.pointer (some ⟨w.heap.size, 0, none⟩)) none (some (.int .i64 (Lib.nDigits u : Int))) none).run Tryz.prog W = .ok (.slice (some ⟨w.heap.size, 0, none⟩) (Lib.nDigits u) 24) W := fun W => by
      rw [run_sliceAt_array_h W 180 ⟨w.heap.size, 0, none⟩ (by simp [Program.arrayLen, Program.elem, Tryz.underlying180]) .i64 (Lib.nDigits u : Int) (by omega) (by rw [hal]; omega)]
      go_simp
    have hH0 := Lib.holds_zero0 w 180 (Lib.nDigits u) (by omega)
    have hfmt := Tryz.internal_strconv_formatBase10 w.heap.size 0 24 u (Array.replicate (Lib.nDigits u) 0) (w.alloc (.cells Lib.zeros24 180)) hH0 (by rw [Array.size_replicate]; exact Lib.lt_pow_nDigits u) hu64 (by rw [Array.size_replicate]; omega)
    rw [Array.size_replicate] at hfmt
    have HH0 := Lib.hid hH0
    have HFM := Lib.hid hfmt
    have ND := Lib.hid (fun W (hW : Lib.TabIs Tryz.prog W "internal/strconv.uint64pow10" .u64 Lib.pow10Tab) => Tryz.internal_strconv_numDigits u hu1 hu64 W hW)
    have HT := Lib.hid htab
    clear hH0 hal hL htab hfmt
    go_enter Tryz.func116, Tryz.ntmps116
    go_wp2_with fail
    refine (ND.out _ (Lib.tabIs_alloc HT.out _)).mono ?_
    rintro e w' ⟨rfl, rfl⟩
    go_wp2_with fail
    refine (HFM.out).mono ?_
    rintro e w' ⟨rfl, k, v', dk, rfl, hF⟩
    have hcv : (convert 31 9 (.slice (some ⟨w.heap.size, 0, none⟩) (Lib.nDigits u) 24)).run Tryz.prog ((putRow (fun (b : UInt8) => Value.int .u8 (b.toNat : Int)) (w.alloc (.cells Lib.zeros24 180)) w.heap.size 0 dk).drewN k) = .ok (.string ⟨(Lib.decDigits u).toArray⟩) ((putRow (fun (b : UInt8) => Value.int .u8 (b.toNat : Int)) (w.alloc (.cells Lib.zeros24 180)) w.heap.size 0 dk).drewN k) := by
      have h := run_convert_bytes_back (P := Tryz.prog) ((putRow (fun (b : UInt8) => Value.int .u8 (b.toNat : Int)) (w.alloc (.cells Lib.zeros24 180)) w.heap.size 0 dk).drewN k) 31 9 5 ⟨w.heap.size, 0, none⟩ 24 (Lib.decDigits u) Tryz.underlying31 Tryz.underlying5 Tryz.underlying9 (fun j hj => by
        rw [Lib.row_is_numeral hF j hj, Lib.add_plain, World.cell?_drewN]
        exact cell?_putRow (fun (b : UInt8) => Value.int .u8 (b.toNat : Int)) _ w.heap.size 0 _ dk HH0.out (by rw [hF.size, Array.size_replicate]) j (by rw [hF.size]; rw [Lib.decDigits_length] at hj; exact hj))
      rw [Lib.decDigits_length] at h
      exact h
    obtain ⟨os, eo⟩ := Lib.fin_at w (.cells Lib.zeros24 180) dk k 0
    have hbl : Below w.heap.size w ((putRow (fun (b : UInt8) => Value.int .u8 (b.toNat : Int)) (w.alloc (.cells Lib.zeros24 180)) w.heap.size 0 dk).drewN k) := by rw [eo]; exact below_grow _ w (Nat.le_refl _) k os
    generalize (putRow (fun (b : UInt8) => Value.int .u8 (b.toNat : Int)) (w.alloc (.cells Lib.zeros24 180)) w.heap.size 0 dk).drewN k = W2 at hcv hbl ⊢
    clear eo HH0 HFM
    go_wp2_with fail
    go_ret
    exact ⟨rfl, hbl⟩
set_option maxRecDepth 100000 in
theorem formatUint_any (u : Nat) (hu64 : u < 18446744073709551616) (w : World) (hL : Laid w) :
    Calls Tryz.prog 72 #[.int .u64 (u : Int), .int .i64 10] w fun x w' => x = .returned (.string ⟨(Lib.decDigits u).toArray⟩) ∧ Below w.heap.size w w' := by
  have FI := Lib.hid (formatUint_in u hu64 w hL)
  clear hL
  go_enter Tryz.func72, Tryz.ntmps72
  go_wp2_with fail
  refine (FI.out).mono ?_
  rintro e w' ⟨rfl, hb⟩
  go_wp2_with fail
  go_ret
  exact ⟨rfl, hb⟩
end Go.Proofs.YtjapgpmoojfhnaaGreatDoor
