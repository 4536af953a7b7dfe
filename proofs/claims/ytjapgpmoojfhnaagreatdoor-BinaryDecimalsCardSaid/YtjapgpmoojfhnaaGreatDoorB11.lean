/- Bits of every canonical text, at the three formats; at another size. FromBits at the format half. FromBits at the format single. -/
import Derived.Test.YtjapgpmoojfhnaaGreatDoorB09
import Derived.Test.YtjapgpmoojfhnaaGreatDoorB10
namespace Go.Proofs.YtjapgpmoojfhnaaGreatDoor
open Go.RowKit Go.Lib

/-- The pattern of a format that is nearest to a word, and whether nothing is lost. -/
def Fl.bitsR (f : Ieee.Format) (b : Nat) : Nat × Bool :=
  if 9218868437227405312 < b % 9223372036854775808 then (f.infRung + f.binade / 2, true) else
  if b % 9223372036854775808 = 9218868437227405312 then ((if 9223372036854775808 ≤ b then f.signWeight else 0) + f.infRung, true) else
  if b % 9223372036854775808 = 0 then ((if 9223372036854775808 ≤ b then f.signWeight else 0), true) else
  ((if 9223372036854775808 ≤ b then f.signWeight else 0) + f.nearest false (Fl.om (b % 9223372036854775808)) (Fl.oe (b % 9223372036854775808)), Fl.exP f (Fl.om (b % 9223372036854775808)) (Fl.oe (b % 9223372036854775808)))
set_option maxHeartbeats 4000000 in
set_option maxRecDepth 100000 in
theorem binbits_nan16 (b : Nat) (hn : 9218868437227405312 < b % 9223372036854775808) (w : World) (hL : Laid w) :
    Calls Tryz.prog 27 #[.string ⟨(Fl.txt b).toArray⟩, .int .i64 16] w fun x w' => x = .returned (.tuple #[.int .u64 32256, .bool true, .int .i64 0]) ∧ Below w.heap.size w w' := by
  have ht : Fl.txt b = [110, 97, 110] := by unfold Fl.txt; rw [if_pos hn]
  have PA := Lib.hid (fun W => parse_nan W)
  have OF := Lib.hid (fun W hW => of_16 W hW)
  have o1 : (FloatKind.f64.format.order 9221120237041090561 9221120237041090561 != some Ordering.eq) = true := by rw [ord_self (by decide)]; decide
  have q1 : bits .or .u64 31744 512 = (32256 : Int) := by decide
  have HL := Lib.hid hL
  rw [ht]
  clear hL hn ht
  go_enter Tryz.func27, Tryz.ntmps27
  go_wp2_with fail
  refine (PA.out _).mono ?_
  rintro x w1 ⟨rfl, hb1⟩
  go_wp2_with fail
  have hL1 := HL.out.on hb1
  refine (OF.out _ hL1).mono ?_
  rintro x w2 ⟨rfl, hb2⟩
  go_upto_region 5 with fail
  obtain ⟨w3, Y, hw3, hY, hb3, hcells⟩ := box_three 16 11 (-24) w2
  rw [hw3, hY]
  have hc12 := hb1.trans (hb2.mono hb1.size)
  have hc13 := hc12.trans (hb3.mono hc12.size)
  obtain ⟨x0, x1, x2, hd3⟩ := hcells w3 (Below.refl _ _)
  clear hcells hw3 hY hb1 hb2 hb3 hc12 hL1 hd3
  have HB3 := Lib.hid hc13
  clear hc13
  go_wp2_with fail
  refine bodyPost_ret (v := .tuple #[.int .u64 32256, .bool true, .int .i64 0]) (by simp [results, Tryz.results27, go_sem]) rfl ?_
  exact ⟨rfl, HB3.out⟩
set_option maxHeartbeats 4000000 in
set_option maxRecDepth 100000 in
theorem binbits_spec16 (b : Nat) (hb : b < 18446744073709551616) (hn : b % 9223372036854775808 = 0 ∨ b % 9223372036854775808 = 9218868437227405312) (w : World) (hL : Laid w) :
    Calls Tryz.prog 27 #[.string ⟨(Fl.txt b).toArray⟩, .int .i64 16] w fun x w' => x = .returned (.tuple #[.int .u64 (((if 9223372036854775808 ≤ b then 32768 else 0) + (if b % 9223372036854775808 = 0 then 0 else 31744) : Nat) : Int), .bool true, .int .i64 0]) ∧ Below w.heap.size w w' := by
  have hcan : Fl.canonW b = b := canon_self (by omega)
  have PA := fun W hW => parse_txt b hb W hW
  rw [hcan] at PA
  have PA := Lib.hid PA
  have OF := Lib.hid (fun W hW => of_16 W hW)
  have SB := Lib.hid (fun W => signbit_any b W hb)
  have II := Lib.hid (fun W => isinf_any b W hb)
  have o1 := ord_self hb
  rw [decide_eq_false (by omega)] at o1
  have o2 : (FloatKind.f64.format.order b 0 == some Ordering.eq) = decide (b % 9223372036854775808 = 0) := by
    rcases hn with h | h
    · exact ord_zero hb (by omega)
    · show (Ieee.Datum.order (Ieee.double.read b) (Ieee.double.read 0) == some Ordering.eq) = _
      rw [decide_eq_false (by omega), read_inf' hb h, read_num 0 (by decide)]
      cases decide (9223372036854775808 ≤ b) <;> rfl
  obtain ⟨sb, hsb⟩ : ∃ sb, decide (9223372036854775808 ≤ b) = sb := ⟨_, rfl⟩
  obtain ⟨sg, hsg⟩ : ∃ sg : Nat, (if 9223372036854775808 ≤ b then 32768 else 0) = sg := ⟨_, rfl⟩
  obtain ⟨zb, hzb⟩ : ∃ zb, decide (b % 9223372036854775808 = 0) = zb := ⟨_, rfl⟩
  obtain ⟨ad, had⟩ : ∃ ad : Nat, (if b % 9223372036854775808 = 0 then 0 else 31744) = ad := ⟨_, rfl⟩
  rw [hsb] at SB
  rw [hsg, had]
  rw [hzb] at o2
  have hii : (b % 9223372036854775808 == 9218868437227405312) = !zb := by
    rw [← hzb]
    rcases hn with h | h
    · rw [h]; decide
    · rw [h]; decide
  rw [hii] at II
  have HSG := Lib.hid (show (sb = true → sg = 32768) ∧ (sb = false → sg = 0) by
    rw [← hsb, ← hsg]
    by_cases h : 9223372036854775808 ≤ b
    · rw [if_pos h, decide_eq_true h]; exact ⟨fun _ => rfl, fun h => (nomatch h)⟩
    · rw [if_neg h, decide_eq_false h]; exact ⟨fun h => (nomatch h), fun _ => rfl⟩)
  have HZB := Lib.hid (show (zb = true → ad = 0) ∧ (zb = false → ad = 31744) by
    rw [← hzb, ← had]
    by_cases h : b % 9223372036854775808 = 0
    · rw [if_pos h, decide_eq_true h]; exact ⟨fun _ => rfl, fun h => (nomatch h)⟩
    · rw [if_neg h, decide_eq_false h]; exact ⟨fun h => (nomatch h), fun _ => rfl⟩)
  have hsgc : sg = 0 ∨ sg = 32768 := by rw [← hsg]; split <;> omega
  have o5 : bits .or .u64 (sg : Int) 31744 = ((sg + 31744 : Nat) : Int) := or_sign sg 31744 15 (by decide) (by decide) hsgc
  obtain ⟨Y2, hY2⟩ : ∃ Y2, sg + 31744 = Y2 := ⟨_, rfl⟩
  rw [hY2] at o5
  have HY2 := Lib.hid hY2
  have HL := Lib.hid hL
  clear hcan hb hn hL hsb hsg hzb had hii hsgc hY2
  go_enter Tryz.func27, Tryz.ntmps27
  go_wp2_with fail
  refine (PA.out _ HL.out).mono ?_
  rintro x w1 ⟨rfl, hb1⟩
  go_wp2_with fail
  have hL1 := HL.out.on hb1
  refine (OF.out _ hL1).mono ?_
  rintro x w2 ⟨rfl, hb2⟩
  go_upto_region 5 with fail
  obtain ⟨w3, Y, hw3, hY, hb3, hcells⟩ := box_three 16 11 (-24) w2
  rw [hw3, hY]
  have hc12 := hb1.trans (hb2.mono hb1.size)
  have hc13 := hc12.trans (hb3.mono hc12.size)
  obtain ⟨x0, x1, x2, hd3⟩ := hcells w3 (Below.refl _ _)
  clear hcells hw3 hY hb1 hb2 hb3 hc12 hL1 hd3
  have HB3 := Lib.hid hc13
  clear hc13
  go_wp2_with fail
  refine (SB.out _).mono ?_
  rintro x w4 ⟨rfl, rfl⟩
  go_upto_if 52 with fail
  go_cut [12] (fun s wx => s = .int .u64 (sg : Int) ∧ wx = w4)
  case first =>
    cases sb with
    | true =>
      have E := Lib.hid (HSG.out.1 rfl)
      go_wp2_with fail
      go_meet
      exact ⟨by rw [E.out]; rfl, rfl⟩
    | false =>
      have E := Lib.hid (HSG.out.2 rfl)
      go_wp2_with fail
      go_meet
      exact ⟨by rw [E.out]; rfl, rfl⟩
  case rest =>
    obtain ⟨rfl, hw⟩ := hcut
    subst hw
    obtain ⟨w3, hw3⟩ : ∃ W, W = wc := ⟨_, rfl⟩
    subst hw3
    cases zb with
    | true =>
      have E := Lib.hid (HZB.out.1 rfl)
      go_wp2_with fail
      refine bodyPost_ret (v := .tuple #[.int .u64 (sg : Int), .bool true, .int .i64 0]) (by simp [results, Tryz.results27, go_sem]) rfl ?_
      exact ⟨by rw [E.out]; simp, HB3.out⟩
    | false =>
      have E := Lib.hid (HZB.out.2 rfl)
      go_wp2_with fail
      refine (II.out _).mono ?_
      rintro x w5 ⟨rfl, rfl⟩
      go_wp2_with fail
      refine bodyPost_ret (v := .tuple #[.int .u64 (Y2 : Int), .bool true, .int .i64 0]) (by simp [results, Tryz.results27, go_sem]) rfl ?_
      exact ⟨by rw [E.out, HY2.out], HB3.out⟩
theorem binbits_any16 (b : Nat) (hb : b < 18446744073709551616) (w : World) (hL : Laid w) :
    Calls Tryz.prog 27 #[.string ⟨(Fl.txt b).toArray⟩, .int .i64 16] w fun x w' => x = .returned (.tuple #[.int .u64 ((Fl.bitsR Fl.half b).1 : Int), .bool (Fl.bitsR Fl.half b).2, .int .i64 0]) ∧ Below w.heap.size w w' := by
  obtain ⟨d1, d2, d3, d4, d5⟩ := Fl.half_is
  unfold Fl.bitsR
  rw [d1, d2, d5]
  by_cases h1 : 9218868437227405312 < b % 9223372036854775808
  · rw [if_pos h1]
    exact binbits_nan16 b h1 w hL
  · rw [if_neg h1]
    by_cases h2 : b % 9223372036854775808 = 9218868437227405312
    · rw [if_pos h2]
      have h := binbits_spec16 b hb (.inr h2) w hL
      rw [if_neg (show ¬ b % 9223372036854775808 = 0 by omega)] at h
      exact h
    · rw [if_neg h2]
      by_cases h3 : b % 9223372036854775808 = 0
      · rw [if_pos h3]
        have h := binbits_spec16 b hb (.inl h3) w hL
        rw [if_pos h3, Nat.add_zero] at h
        exact h
      · rw [if_neg h3]
        exact binbits16 b hb w (by omega) (by omega) hL
set_option maxHeartbeats 4000000 in
set_option maxRecDepth 100000 in
theorem binbits_nan32 (b : Nat) (hn : 9218868437227405312 < b % 9223372036854775808) (w : World) (hL : Laid w) :
    Calls Tryz.prog 27 #[.string ⟨(Fl.txt b).toArray⟩, .int .i64 32] w fun x w' => x = .returned (.tuple #[.int .u64 2143289344, .bool true, .int .i64 0]) ∧ Below w.heap.size w w' := by
  have ht : Fl.txt b = [110, 97, 110] := by unfold Fl.txt; rw [if_pos hn]
  have PA := Lib.hid (fun W => parse_nan W)
  have OF := Lib.hid (fun W hW => of_32 W hW)
  have o1 : (FloatKind.f64.format.order 9221120237041090561 9221120237041090561 != some Ordering.eq) = true := by rw [ord_self (by decide)]; decide
  have q1 : bits .or .u64 2139095040 4194304 = (2143289344 : Int) := by decide
  have HL := Lib.hid hL
  rw [ht]
  clear hL hn ht
  go_enter Tryz.func27, Tryz.ntmps27
  go_wp2_with fail
  refine (PA.out _).mono ?_
  rintro x w1 ⟨rfl, hb1⟩
  go_wp2_with fail
  have hL1 := HL.out.on hb1
  refine (OF.out _ hL1).mono ?_
  rintro x w2 ⟨rfl, hb2⟩
  go_upto_region 5 with fail
  obtain ⟨w3, Y, hw3, hY, hb3, hcells⟩ := box_three 32 24 (-149) w2
  rw [hw3, hY]
  have hc12 := hb1.trans (hb2.mono hb1.size)
  have hc13 := hc12.trans (hb3.mono hc12.size)
  obtain ⟨x0, x1, x2, hd3⟩ := hcells w3 (Below.refl _ _)
  clear hcells hw3 hY hb1 hb2 hb3 hc12 hL1 hd3
  have HB3 := Lib.hid hc13
  clear hc13
  go_wp2_with fail
  refine bodyPost_ret (v := .tuple #[.int .u64 2143289344, .bool true, .int .i64 0]) (by simp [results, Tryz.results27, go_sem]) rfl ?_
  exact ⟨rfl, HB3.out⟩
set_option maxHeartbeats 4000000 in
set_option maxRecDepth 100000 in
theorem binbits_spec32 (b : Nat) (hb : b < 18446744073709551616) (hn : b % 9223372036854775808 = 0 ∨ b % 9223372036854775808 = 9218868437227405312) (w : World) (hL : Laid w) :
    Calls Tryz.prog 27 #[.string ⟨(Fl.txt b).toArray⟩, .int .i64 32] w fun x w' => x = .returned (.tuple #[.int .u64 (((if 9223372036854775808 ≤ b then 2147483648 else 0) + (if b % 9223372036854775808 = 0 then 0 else 2139095040) : Nat) : Int), .bool true, .int .i64 0]) ∧ Below w.heap.size w w' := by
  have hcan : Fl.canonW b = b := canon_self (by omega)
  have PA := fun W hW => parse_txt b hb W hW
  rw [hcan] at PA
  have PA := Lib.hid PA
  have OF := Lib.hid (fun W hW => of_32 W hW)
  have SB := Lib.hid (fun W => signbit_any b W hb)
  have II := Lib.hid (fun W => isinf_any b W hb)
  have o1 := ord_self hb
  rw [decide_eq_false (by omega)] at o1
  have o2 : (FloatKind.f64.format.order b 0 == some Ordering.eq) = decide (b % 9223372036854775808 = 0) := by
    rcases hn with h | h
    · exact ord_zero hb (by omega)
    · show (Ieee.Datum.order (Ieee.double.read b) (Ieee.double.read 0) == some Ordering.eq) = _
      rw [decide_eq_false (by omega), read_inf' hb h, read_num 0 (by decide)]
      cases decide (9223372036854775808 ≤ b) <;> rfl
  obtain ⟨sb, hsb⟩ : ∃ sb, decide (9223372036854775808 ≤ b) = sb := ⟨_, rfl⟩
  obtain ⟨sg, hsg⟩ : ∃ sg : Nat, (if 9223372036854775808 ≤ b then 2147483648 else 0) = sg := ⟨_, rfl⟩
  obtain ⟨zb, hzb⟩ : ∃ zb, decide (b % 9223372036854775808 = 0) = zb := ⟨_, rfl⟩
  obtain ⟨ad, had⟩ : ∃ ad : Nat, (if b % 9223372036854775808 = 0 then 0 else 2139095040) = ad := ⟨_, rfl⟩
  rw [hsb] at SB
  rw [hsg, had]
  rw [hzb] at o2
  have hii : (b % 9223372036854775808 == 9218868437227405312) = !zb := by
    rw [← hzb]
    rcases hn with h | h
    · rw [h]; decide
    · rw [h]; decide
  rw [hii] at II
  have HSG := Lib.hid (show (sb = true → sg = 2147483648) ∧ (sb = false → sg = 0) by
    rw [← hsb, ← hsg]
    by_cases h : 9223372036854775808 ≤ b
    · rw [if_pos h, decide_eq_true h]; exact ⟨fun _ => rfl, fun h => (nomatch h)⟩
    · rw [if_neg h, decide_eq_false h]; exact ⟨fun h => (nomatch h), fun _ => rfl⟩)
  have HZB := Lib.hid (show (zb = true → ad = 0) ∧ (zb = false → ad = 2139095040) by
    rw [← hzb, ← had]
    by_cases h : b % 9223372036854775808 = 0
    · rw [if_pos h, decide_eq_true h]; exact ⟨fun _ => rfl, fun h => (nomatch h)⟩
    · rw [if_neg h, decide_eq_false h]; exact ⟨fun h => (nomatch h), fun _ => rfl⟩)
  have hsgc : sg = 0 ∨ sg = 2147483648 := by rw [← hsg]; split <;> omega
  have o5 : bits .or .u64 (sg : Int) 2139095040 = ((sg + 2139095040 : Nat) : Int) := or_sign sg 2139095040 31 (by decide) (by decide) hsgc
  obtain ⟨Y2, hY2⟩ : ∃ Y2, sg + 2139095040 = Y2 := ⟨_, rfl⟩
  rw [hY2] at o5
  have HY2 := Lib.hid hY2
  have HL := Lib.hid hL
  clear hcan hb hn hL hsb hsg hzb had hii hsgc hY2
  go_enter Tryz.func27, Tryz.ntmps27
  go_wp2_with fail
  refine (PA.out _ HL.out).mono ?_
  rintro x w1 ⟨rfl, hb1⟩
  go_wp2_with fail
  have hL1 := HL.out.on hb1
  refine (OF.out _ hL1).mono ?_
  rintro x w2 ⟨rfl, hb2⟩
  go_upto_region 5 with fail
  obtain ⟨w3, Y, hw3, hY, hb3, hcells⟩ := box_three 32 24 (-149) w2
  rw [hw3, hY]
  have hc12 := hb1.trans (hb2.mono hb1.size)
  have hc13 := hc12.trans (hb3.mono hc12.size)
  obtain ⟨x0, x1, x2, hd3⟩ := hcells w3 (Below.refl _ _)
  clear hcells hw3 hY hb1 hb2 hb3 hc12 hL1 hd3
  have HB3 := Lib.hid hc13
  clear hc13
  go_wp2_with fail
  refine (SB.out _).mono ?_
  rintro x w4 ⟨rfl, rfl⟩
  go_upto_if 52 with fail
  go_cut [12] (fun s wx => s = .int .u64 (sg : Int) ∧ wx = w4)
  case first =>
    cases sb with
    | true =>
      have E := Lib.hid (HSG.out.1 rfl)
      go_wp2_with fail
      go_meet
      exact ⟨by rw [E.out]; rfl, rfl⟩
    | false =>
      have E := Lib.hid (HSG.out.2 rfl)
      go_wp2_with fail
      go_meet
      exact ⟨by rw [E.out]; rfl, rfl⟩
  case rest =>
    obtain ⟨rfl, hw⟩ := hcut
    subst hw
    obtain ⟨w3, hw3⟩ : ∃ W, W = wc := ⟨_, rfl⟩
    subst hw3
    cases zb with
    | true =>
      have E := Lib.hid (HZB.out.1 rfl)
      go_wp2_with fail
      refine bodyPost_ret (v := .tuple #[.int .u64 (sg : Int), .bool true, .int .i64 0]) (by simp [results, Tryz.results27, go_sem]) rfl ?_
      exact ⟨by rw [E.out]; simp, HB3.out⟩
    | false =>
      have E := Lib.hid (HZB.out.2 rfl)
      go_wp2_with fail
      refine (II.out _).mono ?_
      rintro x w5 ⟨rfl, rfl⟩
      go_wp2_with fail
      refine bodyPost_ret (v := .tuple #[.int .u64 (Y2 : Int), .bool true, .int .i64 0]) (by simp [results, Tryz.results27, go_sem]) rfl ?_
      exact ⟨by rw [E.out, HY2.out], HB3.out⟩
theorem binbits_any32 (b : Nat) (hb : b < 18446744073709551616) (w : World) (hL : Laid w) :
    Calls Tryz.prog 27 #[.string ⟨(Fl.txt b).toArray⟩, .int .i64 32] w fun x w' => x = .returned (.tuple #[.int .u64 ((Fl.bitsR Ieee.single b).1 : Int), .bool (Fl.bitsR Ieee.single b).2, .int .i64 0]) ∧ Below w.heap.size w w' := by
  obtain ⟨d1, d2, d3, d4, d5⟩ := Fl.single_is
  unfold Fl.bitsR
  rw [d1, d2, d5]
  by_cases h1 : 9218868437227405312 < b % 9223372036854775808
  · rw [if_pos h1]
    exact binbits_nan32 b h1 w hL
  · rw [if_neg h1]
    by_cases h2 : b % 9223372036854775808 = 9218868437227405312
    · rw [if_pos h2]
      have h := binbits_spec32 b hb (.inr h2) w hL
      rw [if_neg (show ¬ b % 9223372036854775808 = 0 by omega)] at h
      exact h
    · rw [if_neg h2]
      by_cases h3 : b % 9223372036854775808 = 0
      · rw [if_pos h3]
        have h := binbits_spec32 b hb (.inl h3) w hL
        rw [if_pos h3, Nat.add_zero] at h
        exact h
      · rw [if_neg h3]
        exact binbits32 b hb w (by omega) (by omega) hL
set_option maxHeartbeats 4000000 in
set_option maxRecDepth 100000 in
theorem binbits_nan64 (b : Nat) (hn : 9218868437227405312 < b % 9223372036854775808) (w : World) (hL : Laid w) :
    Calls Tryz.prog 27 #[.string ⟨(Fl.txt b).toArray⟩, .int .i64 64] w fun x w' => x = .returned (.tuple #[.int .u64 9221120237041090560, .bool true, .int .i64 0]) ∧ Below w.heap.size w w' := by
  have ht : Fl.txt b = [110, 97, 110] := by unfold Fl.txt; rw [if_pos hn]
  have PA := Lib.hid (fun W => parse_nan W)
  have OF := Lib.hid (fun W hW => of_64 W hW)
  have o1 : (FloatKind.f64.format.order 9221120237041090561 9221120237041090561 != some Ordering.eq) = true := by rw [ord_self (by decide)]; decide
  have q1 : bits .or .u64 9218868437227405312 2251799813685248 = (9221120237041090560 : Int) := by decide
  have HL := Lib.hid hL
  rw [ht]
  clear hL hn ht
  go_enter Tryz.func27, Tryz.ntmps27
  go_wp2_with fail
  refine (PA.out _).mono ?_
  rintro x w1 ⟨rfl, hb1⟩
  go_wp2_with fail
  have hL1 := HL.out.on hb1
  refine (OF.out _ hL1).mono ?_
  rintro x w2 ⟨rfl, hb2⟩
  go_upto_region 5 with fail
  obtain ⟨w3, Y, hw3, hY, hb3, hcells⟩ := box_three 64 53 (-1074) w2
  rw [hw3, hY]
  have hc12 := hb1.trans (hb2.mono hb1.size)
  have hc13 := hc12.trans (hb3.mono hc12.size)
  obtain ⟨x0, x1, x2, hd3⟩ := hcells w3 (Below.refl _ _)
  clear hcells hw3 hY hb1 hb2 hb3 hc12 hL1 hd3
  have HB3 := Lib.hid hc13
  clear hc13
  go_wp2_with fail
  refine bodyPost_ret (v := .tuple #[.int .u64 9221120237041090560, .bool true, .int .i64 0]) (by simp [results, Tryz.results27, go_sem]) rfl ?_
  exact ⟨rfl, HB3.out⟩
set_option maxHeartbeats 4000000 in
set_option maxRecDepth 100000 in
theorem binbits_spec64 (b : Nat) (hb : b < 18446744073709551616) (hn : b % 9223372036854775808 = 0 ∨ b % 9223372036854775808 = 9218868437227405312) (w : World) (hL : Laid w) :
    Calls Tryz.prog 27 #[.string ⟨(Fl.txt b).toArray⟩, .int .i64 64] w fun x w' => x = .returned (.tuple #[.int .u64 (((if 9223372036854775808 ≤ b then 9223372036854775808 else 0) + (if b % 9223372036854775808 = 0 then 0 else 9218868437227405312) : Nat) : Int), .bool true, .int .i64 0]) ∧ Below w.heap.size w w' := by
  have hcan : Fl.canonW b = b := canon_self (by omega)
  have PA := fun W hW => parse_txt b hb W hW
  rw [hcan] at PA
  have PA := Lib.hid PA
  have OF := Lib.hid (fun W hW => of_64 W hW)
  have SB := Lib.hid (fun W => signbit_any b W hb)
  have II := Lib.hid (fun W => isinf_any b W hb)
  have o1 := ord_self hb
  rw [decide_eq_false (by omega)] at o1
  have o2 : (FloatKind.f64.format.order b 0 == some Ordering.eq) = decide (b % 9223372036854775808 = 0) := by
    rcases hn with h | h
    · exact ord_zero hb (by omega)
    · show (Ieee.Datum.order (Ieee.double.read b) (Ieee.double.read 0) == some Ordering.eq) = _
      rw [decide_eq_false (by omega), read_inf' hb h, read_num 0 (by decide)]
      cases decide (9223372036854775808 ≤ b) <;> rfl
  obtain ⟨sb, hsb⟩ : ∃ sb, decide (9223372036854775808 ≤ b) = sb := ⟨_, rfl⟩
  obtain ⟨sg, hsg⟩ : ∃ sg : Nat, (if 9223372036854775808 ≤ b then 9223372036854775808 else 0) = sg := ⟨_, rfl⟩
  obtain ⟨zb, hzb⟩ : ∃ zb, decide (b % 9223372036854775808 = 0) = zb := ⟨_, rfl⟩
  obtain ⟨ad, had⟩ : ∃ ad : Nat, (if b % 9223372036854775808 = 0 then 0 else 9218868437227405312) = ad := ⟨_, rfl⟩
  rw [hsb] at SB
  rw [hsg, had]
  rw [hzb] at o2
  have hii : (b % 9223372036854775808 == 9218868437227405312) = !zb := by
    rw [← hzb]
    rcases hn with h | h
    · rw [h]; decide
    · rw [h]; decide
  rw [hii] at II
  have HSG := Lib.hid (show (sb = true → sg = 9223372036854775808) ∧ (sb = false → sg = 0) by
    rw [← hsb, ← hsg]
    by_cases h : 9223372036854775808 ≤ b
    · rw [if_pos h, decide_eq_true h]; exact ⟨fun _ => rfl, fun h => (nomatch h)⟩
    · rw [if_neg h, decide_eq_false h]; exact ⟨fun h => (nomatch h), fun _ => rfl⟩)
  have HZB := Lib.hid (show (zb = true → ad = 0) ∧ (zb = false → ad = 9218868437227405312) by
    rw [← hzb, ← had]
    by_cases h : b % 9223372036854775808 = 0
    · rw [if_pos h, decide_eq_true h]; exact ⟨fun _ => rfl, fun h => (nomatch h)⟩
    · rw [if_neg h, decide_eq_false h]; exact ⟨fun h => (nomatch h), fun _ => rfl⟩)
  have hsgc : sg = 0 ∨ sg = 9223372036854775808 := by rw [← hsg]; split <;> omega
  have o5 : bits .or .u64 (sg : Int) 9218868437227405312 = ((sg + 9218868437227405312 : Nat) : Int) := or_sign sg 9218868437227405312 63 (by decide) (by decide) hsgc
  obtain ⟨Y2, hY2⟩ : ∃ Y2, sg + 9218868437227405312 = Y2 := ⟨_, rfl⟩
  rw [hY2] at o5
  have HY2 := Lib.hid hY2
  have HL := Lib.hid hL
  clear hcan hb hn hL hsb hsg hzb had hii hsgc hY2
  go_enter Tryz.func27, Tryz.ntmps27
  go_wp2_with fail
  refine (PA.out _ HL.out).mono ?_
  rintro x w1 ⟨rfl, hb1⟩
  go_wp2_with fail
  have hL1 := HL.out.on hb1
  refine (OF.out _ hL1).mono ?_
  rintro x w2 ⟨rfl, hb2⟩
  go_upto_region 5 with fail
  obtain ⟨w3, Y, hw3, hY, hb3, hcells⟩ := box_three 64 53 (-1074) w2
  rw [hw3, hY]
  have hc12 := hb1.trans (hb2.mono hb1.size)
  have hc13 := hc12.trans (hb3.mono hc12.size)
  obtain ⟨x0, x1, x2, hd3⟩ := hcells w3 (Below.refl _ _)
  clear hcells hw3 hY hb1 hb2 hb3 hc12 hL1 hd3
  have HB3 := Lib.hid hc13
  clear hc13
  go_wp2_with fail
  refine (SB.out _).mono ?_
  rintro x w4 ⟨rfl, rfl⟩
  go_upto_if 52 with fail
  go_cut [12] (fun s wx => s = .int .u64 (sg : Int) ∧ wx = w4)
  case first =>
    cases sb with
    | true =>
      have E := Lib.hid (HSG.out.1 rfl)
      go_wp2_with fail
      go_meet
      exact ⟨by rw [E.out]; rfl, rfl⟩
    | false =>
      have E := Lib.hid (HSG.out.2 rfl)
      go_wp2_with fail
      go_meet
      exact ⟨by rw [E.out]; rfl, rfl⟩
  case rest =>
    obtain ⟨rfl, hw⟩ := hcut
    subst hw
    obtain ⟨w3, hw3⟩ : ∃ W, W = wc := ⟨_, rfl⟩
    subst hw3
    cases zb with
    | true =>
      have E := Lib.hid (HZB.out.1 rfl)
      go_wp2_with fail
      refine bodyPost_ret (v := .tuple #[.int .u64 (sg : Int), .bool true, .int .i64 0]) (by simp [results, Tryz.results27, go_sem]) rfl ?_
      exact ⟨by rw [E.out]; simp, HB3.out⟩
    | false =>
      have E := Lib.hid (HZB.out.2 rfl)
      go_wp2_with fail
      refine (II.out _).mono ?_
      rintro x w5 ⟨rfl, rfl⟩
      go_wp2_with fail
      refine bodyPost_ret (v := .tuple #[.int .u64 (Y2 : Int), .bool true, .int .i64 0]) (by simp [results, Tryz.results27, go_sem]) rfl ?_
      exact ⟨by rw [E.out, HY2.out], HB3.out⟩
theorem binbits_any64 (b : Nat) (hb : b < 18446744073709551616) (w : World) (hL : Laid w) :
    Calls Tryz.prog 27 #[.string ⟨(Fl.txt b).toArray⟩, .int .i64 64] w fun x w' => x = .returned (.tuple #[.int .u64 ((Fl.bitsR Ieee.double b).1 : Int), .bool (Fl.bitsR Ieee.double b).2, .int .i64 0]) ∧ Below w.heap.size w w' := by
  obtain ⟨d1, d2, d3, d4, d5⟩ := Fl.double_is
  unfold Fl.bitsR
  rw [d1, d2, d5]
  by_cases h1 : 9218868437227405312 < b % 9223372036854775808
  · rw [if_pos h1]
    exact binbits_nan64 b h1 w hL
  · rw [if_neg h1]
    by_cases h2 : b % 9223372036854775808 = 9218868437227405312
    · rw [if_pos h2]
      have h := binbits_spec64 b hb (.inr h2) w hL
      rw [if_neg (show ¬ b % 9223372036854775808 = 0 by omega)] at h
      exact h
    · rw [if_neg h2]
      by_cases h3 : b % 9223372036854775808 = 0
      · rw [if_pos h3]
        have h := binbits_spec64 b hb (.inl h3) w hL
        rw [if_pos h3, Nat.add_zero] at h
        exact h
      · rw [if_neg h3]
        exact binbits64 b hb w (by omega) (by omega) hL
set_option maxHeartbeats 4000000 in
set_option maxRecDepth 100000 in
theorem binbits_arg (b : Nat) (n : Int) (hb : b < 18446744073709551616) (n1 : n ≠ 16) (n2 : n ≠ 32) (n3 : n ≠ 64) (w : World) (hL : Laid w) :
    Calls Tryz.prog 27 #[.string ⟨(Fl.txt b).toArray⟩, .int .i64 n] w fun x w' => x = .returned (.tuple #[.int .u64 0, .bool false, .int .i64 1]) ∧ Below w.heap.size w w' := by
  have PA := Lib.hid (fun W hW => parse_txt b hb W hW)
  have OF := Lib.hid (fun W hW => of_none n W hW n1 n2 n3)
  have HL := Lib.hid hL
  clear hb hL n1 n2 n3
  go_enter Tryz.func27, Tryz.ntmps27
  go_wp2_with fail
  refine (PA.out _ HL.out).mono ?_
  rintro x w1 ⟨rfl, hb1⟩
  go_wp2_with fail
  have hL1 := HL.out.on hb1
  refine (OF.out _ hL1).mono ?_
  rintro x w2 ⟨rfl, hb2⟩
  go_upto_region 5 with fail
  obtain ⟨w3, Y, hw3, hY, hb3, hcells⟩ := box_three 0 0 0 w2
  rw [hw3]
  have hc12 := hb1.trans (hb2.mono hb1.size)
  have hc13 := hc12.trans (hb3.mono hc12.size)
  clear hcells hw3 hY hb1 hb2 hb3 hc12 hL1
  have HB3 := Lib.hid hc13
  clear hc13
  go_wp2_with fail
  refine bodyPost_ret (v := .tuple #[.int .u64 0, .bool false, .int .i64 1]) (by simp [results, Tryz.results27, go_sem]) rfl ?_
  exact ⟨rfl, HB3.out⟩
end Go.Proofs.YtjapgpmoojfhnaaGreatDoor

namespace Go.Proofs.YtjapgpmoojfhnaaGreatDoor
open Go.RowKit Go.Lib

set_option maxHeartbeats 4000000 in
set_option maxRecDepth 100000 in
theorem frombits16 (b : Nat) (hb : b < 65536) (w : World) (hL : Laid w) :
    Calls Tryz.prog 25 #[.int .u64 (b : Int), .int .i64 16] w fun x w' => x = .returned (.tuple #[.string ⟨(Fl.txt (Fl.wideW Fl.half b)).toArray⟩, .int .i64 0]) ∧ Below w.heap.size w w' := by
  have OF := Lib.hid (fun W hW => of_16 W hW)
  obtain ⟨d1, d2, d3, d4, d5⟩ := Fl.half_is
  have hfm : Fl.Fmt Fl.half := by unfold Fl.Fmt; simp
  obtain ⟨v1, v2, v3⟩ := Fl.wideW_mod hfm b
  obtain ⟨F, hF⟩ : ∃ F, b % 1024 = F := ⟨_, rfl⟩
  obtain ⟨Q, hQ⟩ : ∃ Q, b / 1024 = Q := ⟨_, rfl⟩
  obtain ⟨E, hE⟩ : ∃ E, Q % 32 = E := ⟨_, rfl⟩
  obtain ⟨r, hr⟩ : ∃ r, b % 32768 = r := ⟨_, rfl⟩
  obtain ⟨sb, hsb⟩ : ∃ sb, decide (32768 ≤ b) = sb := ⟨_, rfl⟩
  obtain ⟨S, hS⟩ : ∃ S, b / 32768 = S := ⟨_, rfl⟩
  rw [d5, hr] at v1
  rw [d5] at v2
  obtain ⟨W0, hW0⟩ : ∃ W0, Fl.wideW Fl.half b = W0 := ⟨_, rfl⟩
  rw [hW0] at v1 v2 v3 ⊢
  have g0 : (b : Int) / 65536 = 0 := by omega
  have g1 : bits .and .u64 (b : Int) 1023 = (F : Int) := by
    have h1 := u64_and_nat b 1023 (by omega) (by decide)
    have e : b &&& 1023 = b % 1024 := Nat.and_two_pow_sub_one_eq_mod b 10
    rw [e, hF] at h1
    exact h1
  have g2 : (b : Int) / 1024 = (Q : Int) := by omega
  have g3 : bits .and .u64 (Q : Int) 31 = (E : Int) := by
    have h1 := u64_and_nat Q 31 (by omega) (by decide)
    have e : Q &&& 31 = Q % 32 := Nat.and_two_pow_sub_one_eq_mod Q 5
    rw [e, hE] at h1
    exact h1
  have g4 : ((S : Int) == 1) = sb := by
    rw [← hsb]
    by_cases h : 32768 ≤ b
    · rw [decide_eq_true h, beq_iff_eq]; omega
    · rw [decide_eq_false h, beq_eq_false_iff_ne]; omega
  have g5 : (b : Int) / 32768 = (S : Int) := by omega
  have hrE : r = E * 1024 + F := by omega
  have hFb : F < 1024 := by omega
  have hEb : E < 32 := by omega
  have HL := Lib.hid hL
  by_cases hnan : 31744 < r
  · have ht : Fl.txt W0 = [110, 97, 110] := by
      unfold Fl.txt
      rw [if_pos (by rw [v1, Fl.wide_nan (by rw [d1]; exact hnan)]; decide)]
    rw [ht]
    have k1 : ((E : Int) == 31) = true := by rw [beq_iff_eq]; omega
    have k2 : ((F : Int) != 0) = true := by rw [bne_iff_ne]; omega
    have k3 : ((F : Int) == 0) = false := by rw [beq_eq_false_iff_ne]; omega
    have hEe : E = 31 := by omega
    subst hEe
    clear hL d1 d2 d3 d4 d5 hfm v1 v2 v3 hF hQ hE hr hsb hS hW0 hrE hFb hEb hnan ht hb
    go_enter Tryz.func25, Tryz.ntmps25
    go_wp2_with fail
    refine (OF.out _ HL.out).mono ?_
    rintro x w2 ⟨rfl, hb2⟩
    go_upto_region 2 with fail
    obtain ⟨w3, Y, hw3, hY, hb3, hcells⟩ := box_three 16 11 (-24) w2
    rw [hw3, hY]
    have hc13 := hb2.trans (hb3.mono hb2.size)
    obtain ⟨x0, x1, x2, hd3⟩ := hcells w3 (Below.refl _ _)
    clear hcells hw3 hY hb2 hb3 hd3
    have HB3 := Lib.hid hc13
    clear hc13
    go_wp2_with fail
    go_quiet (fail)
    go_wp2_with fail
    go_ret2
    exact ⟨rfl, below_drewN HB3.out _⟩
  · obtain ⟨R, hR⟩ : ∃ R, Fl.wide Fl.half r = R := ⟨_, rfl⟩
    have hRW : W0 = R + (if sb = true then 9223372036854775808 else 0) := by
      rw [← hW0, ← hR, ← hr, ← d5, ← hsb]
      unfold Fl.wideW
      rw [d5]
      simp
    have hR63 : R < 9223372036854775808 := by rw [← hR]; exact Fl.wide_lt hfm r
    have TX := Lib.hid (fun W hW => text_any W0 v3 W hW)
    have CS := fun W => copysign_any R 13830554455654793216 W (by omega) (by decide)
    rw [Nat.mod_eq_of_lt hR63, show 13830554455654793216 / 9223372036854775808 * 9223372036854775808 = 9223372036854775808 by decide] at CS
    have IN := Lib.hid (fun W => inf_any 1 W (by decide))
    have CS := Lib.hid CS
    have HRW := Lib.hid hRW
    have HX := Lib.hid (And.intro hrE (And.intro hFb (And.intro hEb (And.intro hnan (And.intro hR (And.intro d1 (And.intro d2 (And.intro d3 (And.intro d4 hfm)))))))))
    clear hL d1 d2 d3 d4 d5 hfm v1 v2 v3 hF hQ hE hr hsb hS hW0 hrE hFb hEb hnan hb hR hRW hR63
    go_enter Tryz.func25, Tryz.ntmps25
    go_wp2_with fail
    refine (OF.out _ HL.out).mono ?_
    rintro x w2 ⟨rfl, hb2⟩
    go_upto_region 2 with fail
    obtain ⟨w3, Y, hw3, hY, hb3, hcells⟩ := box_three 16 11 (-24) w2
    rw [hw3, hY]
    have hc13 := hb2.trans (hb3.mono hb2.size)
    have hL3 := (HL.out.on hb2).on hb3
    obtain ⟨x0, x1, x2, hd3⟩ := hcells w3 (Below.refl _ _)
    have HC := Lib.hid hcells
    clear hcells hw3 hY hb2 hb3
    have HB3 := Lib.hid hc13
    have HL3 := Lib.hid hL3
    clear hc13 hL3
    go_wp2_with fail
    go_quiet (fail)
    obtain ⟨wq, hwq⟩ : ∃ wq, w3.drewN nq = wq := ⟨_, rfl⟩
    obtain ⟨y0, y1, y2, hdq⟩ := HC.out wq (by rw [← hwq]; exact below_drewN hd3 _)
    have HBq := Lib.hid (show Below w.heap.size w wq by rw [← hwq]; exact below_drewN HB3.out _)
    have HLq := Lib.hid (show Laid wq by rw [← hwq]; exact HL3.out.on (below_drewN (Below.refl _ _) _))
    rw [hwq]
    clear hwq x0 x1 x2 hd3
    go_upto_block 0 with fail
    go_cut [12] (fun s wx => s = .float .f64 R ∧ Below wq.heap.size wq wx)
    case first =>
      obtain ⟨hrE, hFb, hEb, hnan, hR, d1, d2, d3, d4, hfm⟩ := HX.out
      by_cases hi : E = 31
      · have hF0 : F = 0 := by omega
        have hRv : R = 9218868437227405312 := by rw [← hR, show r = Ieee.Format.infRung Fl.half by rw [d1]; omega]; exact Fl.wide_inf
        subst hi
        subst hF0
        have HRV := Lib.hid hRv
        clear hrE hFb hEb hnan hR d1 d2 d3 d4 hfm hRv
        go_wp2_with fail
        refine (IN.out _).mono ?_
        rintro x w4 ⟨rfl, rfl⟩
        go_wp2_with fail
        go_meet
        exact ⟨by rw [HRV.out], Below.refl _ _⟩
      · have k1 : ((E : Int) == 31) = false := by rw [beq_eq_false_iff_ne]; omega
        by_cases h0 : E = 0
        · by_cases hF0 : F = 0
          · have hRv : R = 0 := by rw [← hR, show r = 0 by omega]; exact Fl.wide_zero hfm
            subst h0
            subst hF0
            have HRV := Lib.hid hRv
            have LZ := Lib.hid (fun W => ldexp_zero (-24) W)
            have cv : floatOfInt FloatKind.f64 0 = 0 := by decide
            clear hrE hFb hEb hnan hR d1 d2 d3 d4 hfm hRv hi
            go_wp2_with fail
            refine (LZ.out _).mono ?_
            rintro x w4 ⟨rfl, rfl⟩
            go_wp2_with fail
            go_meet
            exact ⟨by rw [HRV.out], Below.refl _ _⟩
          · have hrF : r = F := by omega
            obtain ⟨s1, s2, s3⟩ := Fl.wide_is hfm (r := r) (by omega) (by rw [d1]; omega)
            rw [hR] at s1 s2 s3
            have e1 : Fl.rmag Fl.half r = F := by unfold Fl.rmag; rw [d2, if_pos (by omega)]; exact hrF
            have e2 : Fl.rplace Fl.half r = -24 := by unfold Fl.rplace; rw [d2, if_pos (by omega), d3]
            rw [e1, e2] at s3
            have LD := fun W => ldexp_any F (-24) R W (by omega) (by omega) (by omega) s1 s2 s3
            have cv := cvt_nat F (by omega) (by omega)
            obtain ⟨f0, hf0⟩ : ∃ f0, Fl.wordN F = f0 := ⟨_, rfl⟩
            rw [hf0] at cv LD
            have LD := Lib.hid LD
            subst h0
            clear hrE hFb hEb hnan hR d1 d2 d3 d4 hfm hi hrF s1 s2 s3 e1 e2 hf0 hF0
            go_wp2_with fail
            refine (LD.out _).mono ?_
            rintro x w4 ⟨rfl, rfl⟩
            go_wp2_with fail
            go_meet
            exact ⟨rfl, Below.refl _ _⟩
        · have k2 : ((E : Int) == 0) = false := by rw [beq_eq_false_iff_ne]; omega
          obtain ⟨M, hM⟩ : ∃ M, 1024 + F = M := ⟨_, rfl⟩
          obtain ⟨p, hp⟩ : ∃ p : Int, -24 + (E : Int) - 1 = p := ⟨_, rfl⟩
          obtain ⟨s1, s2, s3⟩ := Fl.wide_is hfm (r := r) (by omega) (by rw [d1]; omega)
          rw [hR] at s1 s2 s3
          have hdiv : r / 1024 = E := by omega
          have hmod : r % 1024 = F := by omega
          have e1 : Fl.rmag Fl.half r = M := by unfold Fl.rmag; rw [d2, if_neg (by omega), hmod]; exact hM
          have e2 : Fl.rplace Fl.half r = p := by unfold Fl.rplace; rw [d2, if_neg (by omega), d3, hdiv]; omega
          rw [e1, e2] at s3
          have LD := fun W => ldexp_any M p R W (by omega) (by omega) (by omega) s1 s2 s3
          have cv := cvt_nat M (by omega) (by omega)
          obtain ⟨f0, hf0⟩ : ∃ f0, Fl.wordN M = f0 := ⟨_, rfl⟩
          rw [hf0] at cv LD
          have LD := Lib.hid LD
          have q1 : bits .or .u64 (F : Int) 1024 = (M : Int) := by rw [← hM]; exact or_bit F 10 (by decide) (by omega)
          have q1b : bits .or .u64 (F : Int) (IntKind.u64.wrap 1024) = (M : Int) := q1
          have q2 : IntKind.i64.wrap (E : Int) = (E : Int) := IntWalk.i64_in _ (by omega)
          have q3 : IntKind.i64.wrap (-24 + (E : Int)) = -24 + (E : Int) := IntWalk.i64_in _ (by omega)
          have q4 : IntKind.i64.wrap (-24 + (E : Int) - 1) = p := by rw [hp]; exact IntWalk.i64_in _ (by omega)
          clear hrE hFb hEb hnan hR d1 d2 d3 d4 hfm hi hdiv hmod hM hp s1 s2 s3 e1 e2 hf0 h0
          go_wp2_with fail
          go_region_held3 (fun W => W.cell? ⟨Y, 0, none⟩ = some (.int .i64 16) ∧ W.cell? ⟨Y, 1, none⟩ = some (.int .i64 11) ∧ W.cell? ⟨Y, 2, none⟩ = some (.int .i64 (-24)) ∧ Below w3.heap.size w3 W)
            ((refine HC.out _ ?_; first | assumption | exact b_drew hdq | exact b_drew (by assumption)))
            (first | (go_at_call 63; refine (LD.out _).mono ?_; rintro x w4 ⟨rfl, rfl⟩))
          go_wp2_with fail
          go_meet
          exact ⟨rfl, b_drew (Below.refl _ _)⟩
    case rest =>
      obtain ⟨rfl, hbx⟩ := hcut
      have hLx := HLq.out.on hbx
      have hbE := HBq.out.trans (hbx.mono HBq.out.size)
      have HBE := Lib.hid hbE
      have HLE := Lib.hid hLx
      clear hbE hLx hbx y0 y1 y2 hdq
      cases sb with
      | true =>
        have e : W0 = R + 9223372036854775808 := by rw [HRW.out, if_pos rfl]
        rw [← e] at CS
        clear e
        go_wp2_with fail
        refine (CS.out _).mono ?_
        rintro x w4 ⟨rfl, rfl⟩
        go_wp2_with fail
        refine (TX.out _ HLE.out).mono ?_
        rintro x w5 ⟨rfl, hb5⟩
        go_wp2_with fail
        go_ret2
        exact ⟨rfl, HBE.out.trans (hb5.mono HBE.out.size)⟩
      | false =>
        have e : W0 = R := by rw [HRW.out, if_neg (by simp)]; rfl
        subst e
        go_wp2_with fail
        refine (TX.out _ HLE.out).mono ?_
        rintro x w5 ⟨rfl, hb5⟩
        go_wp2_with fail
        go_ret2
        exact ⟨rfl, HBE.out.trans (hb5.mono HBE.out.size)⟩
end Go.Proofs.YtjapgpmoojfhnaaGreatDoor

namespace Go.Proofs.YtjapgpmoojfhnaaGreatDoor
open Go.RowKit Go.Lib

set_option maxHeartbeats 4000000 in
set_option maxRecDepth 100000 in
theorem frombits32 (b : Nat) (hb : b < 4294967296) (w : World) (hL : Laid w) :
    Calls Tryz.prog 25 #[.int .u64 (b : Int), .int .i64 32] w fun x w' => x = .returned (.tuple #[.string ⟨(Fl.txt (Fl.wideW Ieee.single b)).toArray⟩, .int .i64 0]) ∧ Below w.heap.size w w' := by
  have OF := Lib.hid (fun W hW => of_32 W hW)
  obtain ⟨d1, d2, d3, d4, d5⟩ := Fl.single_is
  have hfm : Fl.Fmt Ieee.single := by unfold Fl.Fmt; simp
  obtain ⟨v1, v2, v3⟩ := Fl.wideW_mod hfm b
  obtain ⟨F, hF⟩ : ∃ F, b % 8388608 = F := ⟨_, rfl⟩
  obtain ⟨Q, hQ⟩ : ∃ Q, b / 8388608 = Q := ⟨_, rfl⟩
  obtain ⟨E, hE⟩ : ∃ E, Q % 256 = E := ⟨_, rfl⟩
  obtain ⟨r, hr⟩ : ∃ r, b % 2147483648 = r := ⟨_, rfl⟩
  obtain ⟨sb, hsb⟩ : ∃ sb, decide (2147483648 ≤ b) = sb := ⟨_, rfl⟩
  obtain ⟨S, hS⟩ : ∃ S, b / 2147483648 = S := ⟨_, rfl⟩
  rw [d5, hr] at v1
  rw [d5] at v2
  obtain ⟨W0, hW0⟩ : ∃ W0, Fl.wideW Ieee.single b = W0 := ⟨_, rfl⟩
  rw [hW0] at v1 v2 v3 ⊢
  have g0 : (b : Int) / 4294967296 = 0 := by omega
  have g1 : bits .and .u64 (b : Int) 8388607 = (F : Int) := by
    have h1 := u64_and_nat b 8388607 (by omega) (by decide)
    have e : b &&& 8388607 = b % 8388608 := Nat.and_two_pow_sub_one_eq_mod b 23
    rw [e, hF] at h1
    exact h1
  have g2 : (b : Int) / 8388608 = (Q : Int) := by omega
  have g3 : bits .and .u64 (Q : Int) 255 = (E : Int) := by
    have h1 := u64_and_nat Q 255 (by omega) (by decide)
    have e : Q &&& 255 = Q % 256 := Nat.and_two_pow_sub_one_eq_mod Q 8
    rw [e, hE] at h1
    exact h1
  have g4 : ((S : Int) == 1) = sb := by
    rw [← hsb]
    by_cases h : 2147483648 ≤ b
    · rw [decide_eq_true h, beq_iff_eq]; omega
    · rw [decide_eq_false h, beq_eq_false_iff_ne]; omega
  have g5 : (b : Int) / 2147483648 = (S : Int) := by omega
  have hrE : r = E * 8388608 + F := by omega
  have hFb : F < 8388608 := by omega
  have hEb : E < 256 := by omega
  have HL := Lib.hid hL
  by_cases hnan : 2139095040 < r
  · have ht : Fl.txt W0 = [110, 97, 110] := by
      unfold Fl.txt
      rw [if_pos (by rw [v1, Fl.wide_nan (by rw [d1]; exact hnan)]; decide)]
    rw [ht]
    have k1 : ((E : Int) == 255) = true := by rw [beq_iff_eq]; omega
    have k2 : ((F : Int) != 0) = true := by rw [bne_iff_ne]; omega
    have k3 : ((F : Int) == 0) = false := by rw [beq_eq_false_iff_ne]; omega
    have hEe : E = 255 := by omega
    subst hEe
    clear hL d1 d2 d3 d4 d5 hfm v1 v2 v3 hF hQ hE hr hsb hS hW0 hrE hFb hEb hnan ht hb
    go_enter Tryz.func25, Tryz.ntmps25
    go_wp2_with fail
    refine (OF.out _ HL.out).mono ?_
    rintro x w2 ⟨rfl, hb2⟩
    go_upto_region 2 with fail
    obtain ⟨w3, Y, hw3, hY, hb3, hcells⟩ := box_three 32 24 (-149) w2
    rw [hw3, hY]
    have hc13 := hb2.trans (hb3.mono hb2.size)
    obtain ⟨x0, x1, x2, hd3⟩ := hcells w3 (Below.refl _ _)
    clear hcells hw3 hY hb2 hb3 hd3
    have HB3 := Lib.hid hc13
    clear hc13
    go_wp2_with fail
    go_quiet (fail)
    go_wp2_with fail
    go_ret2
    exact ⟨rfl, below_drewN HB3.out _⟩
  · obtain ⟨R, hR⟩ : ∃ R, Fl.wide Ieee.single r = R := ⟨_, rfl⟩
    have hRW : W0 = R + (if sb = true then 9223372036854775808 else 0) := by
      rw [← hW0, ← hR, ← hr, ← d5, ← hsb]
      unfold Fl.wideW
      rw [d5]
      simp
    have hR63 : R < 9223372036854775808 := by rw [← hR]; exact Fl.wide_lt hfm r
    have TX := Lib.hid (fun W hW => text_any W0 v3 W hW)
    have CS := fun W => copysign_any R 13830554455654793216 W (by omega) (by decide)
    rw [Nat.mod_eq_of_lt hR63, show 13830554455654793216 / 9223372036854775808 * 9223372036854775808 = 9223372036854775808 by decide] at CS
    have IN := Lib.hid (fun W => inf_any 1 W (by decide))
    have CS := Lib.hid CS
    have HRW := Lib.hid hRW
    have HX := Lib.hid (And.intro hrE (And.intro hFb (And.intro hEb (And.intro hnan (And.intro hR (And.intro d1 (And.intro d2 (And.intro d3 (And.intro d4 hfm)))))))))
    clear hL d1 d2 d3 d4 d5 hfm v1 v2 v3 hF hQ hE hr hsb hS hW0 hrE hFb hEb hnan hb hR hRW hR63
    go_enter Tryz.func25, Tryz.ntmps25
    go_wp2_with fail
    refine (OF.out _ HL.out).mono ?_
    rintro x w2 ⟨rfl, hb2⟩
    go_upto_region 2 with fail
    obtain ⟨w3, Y, hw3, hY, hb3, hcells⟩ := box_three 32 24 (-149) w2
    rw [hw3, hY]
    have hc13 := hb2.trans (hb3.mono hb2.size)
    have hL3 := (HL.out.on hb2).on hb3
    obtain ⟨x0, x1, x2, hd3⟩ := hcells w3 (Below.refl _ _)
    have HC := Lib.hid hcells
    clear hcells hw3 hY hb2 hb3
    have HB3 := Lib.hid hc13
    have HL3 := Lib.hid hL3
    clear hc13 hL3
    go_wp2_with fail
    go_quiet (fail)
    obtain ⟨wq, hwq⟩ : ∃ wq, w3.drewN nq = wq := ⟨_, rfl⟩
    obtain ⟨y0, y1, y2, hdq⟩ := HC.out wq (by rw [← hwq]; exact below_drewN hd3 _)
    have HBq := Lib.hid (show Below w.heap.size w wq by rw [← hwq]; exact below_drewN HB3.out _)
    have HLq := Lib.hid (show Laid wq by rw [← hwq]; exact HL3.out.on (below_drewN (Below.refl _ _) _))
    rw [hwq]
    clear hwq x0 x1 x2 hd3
    go_upto_block 0 with fail
    go_cut [12] (fun s wx => s = .float .f64 R ∧ Below wq.heap.size wq wx)
    case first =>
      obtain ⟨hrE, hFb, hEb, hnan, hR, d1, d2, d3, d4, hfm⟩ := HX.out
      by_cases hi : E = 255
      · have hF0 : F = 0 := by omega
        have hRv : R = 9218868437227405312 := by rw [← hR, show r = Ieee.Format.infRung Ieee.single by rw [d1]; omega]; exact Fl.wide_inf
        subst hi
        subst hF0
        have HRV := Lib.hid hRv
        clear hrE hFb hEb hnan hR d1 d2 d3 d4 hfm hRv
        go_wp2_with fail
        refine (IN.out _).mono ?_
        rintro x w4 ⟨rfl, rfl⟩
        go_wp2_with fail
        go_meet
        exact ⟨by rw [HRV.out], Below.refl _ _⟩
      · have k1 : ((E : Int) == 255) = false := by rw [beq_eq_false_iff_ne]; omega
        by_cases h0 : E = 0
        · by_cases hF0 : F = 0
          · have hRv : R = 0 := by rw [← hR, show r = 0 by omega]; exact Fl.wide_zero hfm
            subst h0
            subst hF0
            have HRV := Lib.hid hRv
            have LZ := Lib.hid (fun W => ldexp_zero (-149) W)
            have cv : floatOfInt FloatKind.f64 0 = 0 := by decide
            clear hrE hFb hEb hnan hR d1 d2 d3 d4 hfm hRv hi
            go_wp2_with fail
            refine (LZ.out _).mono ?_
            rintro x w4 ⟨rfl, rfl⟩
            go_wp2_with fail
            go_meet
            exact ⟨by rw [HRV.out], Below.refl _ _⟩
          · have hrF : r = F := by omega
            obtain ⟨s1, s2, s3⟩ := Fl.wide_is hfm (r := r) (by omega) (by rw [d1]; omega)
            rw [hR] at s1 s2 s3
            have e1 : Fl.rmag Ieee.single r = F := by unfold Fl.rmag; rw [d2, if_pos (by omega)]; exact hrF
            have e2 : Fl.rplace Ieee.single r = -149 := by unfold Fl.rplace; rw [d2, if_pos (by omega), d3]
            rw [e1, e2] at s3
            have LD := fun W => ldexp_any F (-149) R W (by omega) (by omega) (by omega) s1 s2 s3
            have cv := cvt_nat F (by omega) (by omega)
            obtain ⟨f0, hf0⟩ : ∃ f0, Fl.wordN F = f0 := ⟨_, rfl⟩
            rw [hf0] at cv LD
            have LD := Lib.hid LD
            subst h0
            clear hrE hFb hEb hnan hR d1 d2 d3 d4 hfm hi hrF s1 s2 s3 e1 e2 hf0 hF0
            go_wp2_with fail
            refine (LD.out _).mono ?_
            rintro x w4 ⟨rfl, rfl⟩
            go_wp2_with fail
            go_meet
            exact ⟨rfl, Below.refl _ _⟩
        · have k2 : ((E : Int) == 0) = false := by rw [beq_eq_false_iff_ne]; omega
          obtain ⟨M, hM⟩ : ∃ M, 8388608 + F = M := ⟨_, rfl⟩
          obtain ⟨p, hp⟩ : ∃ p : Int, -149 + (E : Int) - 1 = p := ⟨_, rfl⟩
          obtain ⟨s1, s2, s3⟩ := Fl.wide_is hfm (r := r) (by omega) (by rw [d1]; omega)
          rw [hR] at s1 s2 s3
          have hdiv : r / 8388608 = E := by omega
          have hmod : r % 8388608 = F := by omega
          have e1 : Fl.rmag Ieee.single r = M := by unfold Fl.rmag; rw [d2, if_neg (by omega), hmod]; exact hM
          have e2 : Fl.rplace Ieee.single r = p := by unfold Fl.rplace; rw [d2, if_neg (by omega), d3, hdiv]; omega
          rw [e1, e2] at s3
          have LD := fun W => ldexp_any M p R W (by omega) (by omega) (by omega) s1 s2 s3
          have cv := cvt_nat M (by omega) (by omega)
          obtain ⟨f0, hf0⟩ : ∃ f0, Fl.wordN M = f0 := ⟨_, rfl⟩
          rw [hf0] at cv LD
          have LD := Lib.hid LD
          have q1 : bits .or .u64 (F : Int) 8388608 = (M : Int) := by rw [← hM]; exact or_bit F 23 (by decide) (by omega)
          have q1b : bits .or .u64 (F : Int) (IntKind.u64.wrap 8388608) = (M : Int) := q1
          have q2 : IntKind.i64.wrap (E : Int) = (E : Int) := IntWalk.i64_in _ (by omega)
          have q3 : IntKind.i64.wrap (-149 + (E : Int)) = -149 + (E : Int) := IntWalk.i64_in _ (by omega)
          have q4 : IntKind.i64.wrap (-149 + (E : Int) - 1) = p := by rw [hp]; exact IntWalk.i64_in _ (by omega)
          clear hrE hFb hEb hnan hR d1 d2 d3 d4 hfm hi hdiv hmod hM hp s1 s2 s3 e1 e2 hf0 h0
          go_wp2_with fail
          go_region_held3 (fun W => W.cell? ⟨Y, 0, none⟩ = some (.int .i64 32) ∧ W.cell? ⟨Y, 1, none⟩ = some (.int .i64 24) ∧ W.cell? ⟨Y, 2, none⟩ = some (.int .i64 (-149)) ∧ Below w3.heap.size w3 W)
            ((refine HC.out _ ?_; first | assumption | exact b_drew hdq | exact b_drew (by assumption)))
            (first | (go_at_call 63; refine (LD.out _).mono ?_; rintro x w4 ⟨rfl, rfl⟩))
          go_wp2_with fail
          go_meet
          exact ⟨rfl, b_drew (Below.refl _ _)⟩
    case rest =>
      obtain ⟨rfl, hbx⟩ := hcut
      have hLx := HLq.out.on hbx
      have hbE := HBq.out.trans (hbx.mono HBq.out.size)
      have HBE := Lib.hid hbE
      have HLE := Lib.hid hLx
      clear hbE hLx hbx y0 y1 y2 hdq
      cases sb with
      | true =>
        have e : W0 = R + 9223372036854775808 := by rw [HRW.out, if_pos rfl]
        rw [← e] at CS
        clear e
        go_wp2_with fail
        refine (CS.out _).mono ?_
        rintro x w4 ⟨rfl, rfl⟩
        go_wp2_with fail
        refine (TX.out _ HLE.out).mono ?_
        rintro x w5 ⟨rfl, hb5⟩
        go_wp2_with fail
        go_ret2
        exact ⟨rfl, HBE.out.trans (hb5.mono HBE.out.size)⟩
      | false =>
        have e : W0 = R := by rw [HRW.out, if_neg (by simp)]; rfl
        subst e
        go_wp2_with fail
        refine (TX.out _ HLE.out).mono ?_
        rintro x w5 ⟨rfl, hb5⟩
        go_wp2_with fail
        go_ret2
        exact ⟨rfl, HBE.out.trans (hb5.mono HBE.out.size)⟩
end Go.Proofs.YtjapgpmoojfhnaaGreatDoor
