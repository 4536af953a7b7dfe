/- Bits of every canonical text, at the three formats; at another size. -/
import Derived.Test.YtjapgpmoojfhnaaGreatDoorWalkZA
import Derived.Test.YtjapgpmoojfhnaaGreatDoorWalkZB
import Derived.Test.YtjapgpmoojfhnaaGreatDoorWalkZC
namespace Go.Proofs.YtjapgpmoojfhnaaGreatDoor
open Go.RowKit Go.Lib

/-- The pattern of a format that is nearest to a word, and whether nothing is lost. -/
def Fl.bitsR (f : Ieee.Format) (b : Nat) : Nat × Bool :=
  if 9218868437227405312 < b % 9223372036854775808 then (f.infRung + f.binade / 2, true) else
  if b % 9223372036854775808 = 9218868437227405312 then ((if 9223372036854775808 ≤ b then f.signWeight else 0) + f.infRung, true) else
  if b % 9223372036854775808 = 0 then ((if 9223372036854775808 ≤ b then f.signWeight else 0), true) else
  ((if 9223372036854775808 ≤ b then f.signWeight else 0) + f.nearest false (Fl.om (b % 9223372036854775808)) (Fl.oe (b % 9223372036854775808)), Fl.exP f (Fl.om (b % 9223372036854775808)) (Fl.oe (b % 9223372036854775808)))
set_option maxHeartbeats 4000000 in
set_option maxRecDepth 100000 in
theorem binbits_nan16 (b : Nat) (hn : 9218868437227405312 < b % 9223372036854775808) (w : World) (hL : Laid w) :
    Calls Tryz.prog 27 #[.string ⟨(Fl.txt b).toArray⟩, .int .i64 16] w fun x w' => x = .returned (.tuple #[.int .u64 32256, .bool true, .int .i64 0]) ∧ Below w.heap.size w w' := by
  have ht : Fl.txt b = [110, 97, 110] := by unfold Fl.txt; rw [if_pos hn]
  have PA := Lib.hid (fun W => parse_nan W)
  have OF := Lib.hid (fun W hW => of_16 W hW)
  have o1 : (FloatKind.f64.format.order 9221120237041090561 9221120237041090561 != some Ordering.eq) = true := by rw [ord_self (by decide)]; decide
  have q1 : bits .or .u64 31744 512 = (32256 : Int) := by decide
  have HL := Lib.hid hL
  rw [ht]
  clear hL hn ht
  go_enter Tryz.func27, Tryz.ntmps27
  go_wp2_with fail
  refine (PA.out _).mono ?_
  rintro x w1 ⟨rfl, hb1⟩
  go_wp2_with fail
  have hL1 := HL.out.on hb1
  refine (OF.out _ hL1).mono ?_
  rintro x w2 ⟨rfl, hb2⟩
  go_upto_region 5 with fail
  obtain ⟨w3, Y, hw3, hY, hb3, hcells⟩ := box_three 16 11 (-24) w2
  rw [hw3, hY]
  have hc12 := hb1.trans (hb2.mono hb1.size)
  have hc13 := hc12.trans (hb3.mono hc12.size)
  obtain ⟨x0, x1, x2, hd3⟩ := hcells w3 (Below.refl _ _)
  clear hcells hw3 hY hb1 hb2 hb3 hc12 hL1 hd3
  have HB3 := Lib.hid hc13
  clear hc13
  go_wp2_with fail
  refine bodyPost_ret (v := .tuple #[.int .u64 32256, .bool true, .int .i64 0]) (by simp [results, Tryz.results27, go_sem]) rfl ?_
  exact ⟨rfl, HB3.out⟩
set_option maxHeartbeats 4000000 in
set_option maxRecDepth 100000 in
theorem binbits_spec16 (b : Nat) (hb : b < 18446744073709551616) (hn : b % 9223372036854775808 = 0 ∨ b % 9223372036854775808 = 9218868437227405312) (w : World) (hL : Laid w) :
    Calls Tryz.prog 27 #[.string ⟨(Fl.txt b).toArray⟩, .int .i64 16] w fun x w' => x = .returned (.tuple #[.int .u64 (((if 9223372036854775808 ≤ b then 32768 else 0) + (if b % 9223372036854775808 = 0 then 0 else 31744) : Nat) : Int), .bool true, .int .i64 0]) ∧ Below w.heap.size w w' := by
  have hcan : Fl.canonW b = b := canon_self (by omega)
  have PA := fun W hW => parse_txt b hb W hW
  rw [hcan] at PA
  have PA := Lib.hid PA
  have OF := Lib.hid (fun W hW => of_16 W hW)
  have SB := Lib.hid (fun W => signbit_any b W hb)
  have II := Lib.hid (fun W => isinf_any b W hb)
  have o1 := ord_self hb
  rw [decide_eq_false (by omega)] at o1
  have o2 : (FloatKind.f64.format.order b 0 == some Ordering.eq) = decide (b % 9223372036854775808 = 0) := by
    rcases hn with h | h
    · exact ord_zero hb (by omega)
    · show (Ieee.Datum.order (Ieee.double.read b) (Ieee.double.read 0) == some Ordering.eq) = _
      rw [decide_eq_false (by omega), read_inf' hb h, read_num 0 (by decide)]
      cases decide (9223372036854775808 ≤ b) <;> rfl
  obtain ⟨sb, hsb⟩ : ∃ sb, decide (9223372036854775808 ≤ b) = sb := ⟨_, rfl⟩
  obtain ⟨sg, hsg⟩ : ∃ sg : Nat, (if 9223372036854775808 ≤ b then 32768 else 0) = sg := ⟨_, rfl⟩
  obtain ⟨zb, hzb⟩ : ∃ zb, decide (b % 9223372036854775808 = 0) = zb := ⟨_, rfl⟩
  obtain ⟨ad, had⟩ : ∃ ad : Nat, (if b % 9223372036854775808 = 0 then 0 else 31744) = ad := ⟨_, rfl⟩
  rw [hsb] at SB
  rw [hsg, had]
  rw [hzb] at o2
  have hii : (b % 9223372036854775808 == 9218868437227405312) = !zb := by
    rw [← hzb]
    rcases hn with h | h
    · rw [h]; decide
    · rw [h]; decide
  rw [hii] at II
  have HSG := Lib.hid (show (sb = true → sg = 32768) ∧ (sb = false → sg = 0) by
    rw [← hsb, ← hsg]
    by_cases h : 9223372036854775808 ≤ b
    · rw [if_pos h, decide_eq_true h]; exact ⟨fun _ => rfl, fun h => (nomatch h)⟩
    · rw [if_neg h, decide_eq_false h]; exact ⟨fun h => (nomatch h), fun _ => rfl⟩)
  have HZB := Lib.hid (show (zb = true → ad = 0) ∧ (zb = false → ad = 31744) by
    rw [← hzb, ← had]
    by_cases h : b % 9223372036854775808 = 0
    · rw [if_pos h, decide_eq_true h]; exact ⟨fun _ => rfl, fun h => (nomatch h)⟩
    · rw [if_neg h, decide_eq_false h]; exact ⟨fun h => (nomatch h), fun _ => rfl⟩)
  have hsgc : sg = 0 ∨ sg = 32768 := by rw [← hsg]; split <;> omega
  have o5 : bits .or .u64 (sg : Int) 31744 = ((sg + 31744 : Nat) : Int) := or_sign sg 31744 15 (by decide) (by decide) hsgc
  obtain ⟨Y2, hY2⟩ : ∃ Y2, sg + 31744 = Y2 := ⟨_, rfl⟩
  rw [hY2] at o5
  have HY2 := Lib.hid hY2
  have HL := Lib.hid hL
  clear hcan hb hn hL hsb hsg hzb had hii hsgc hY2
  go_enter Tryz.func27, Tryz.ntmps27
  go_wp2_with fail
  refine (PA.out _ HL.out).mono ?_
  rintro x w1 ⟨rfl, hb1⟩
  go_wp2_with fail
  have hL1 := HL.out.on hb1
  refine (OF.out _ hL1).mono ?_
  rintro x w2 ⟨rfl, hb2⟩
  go_upto_region 5 with fail
  obtain ⟨w3, Y, hw3, hY, hb3, hcells⟩ := box_three 16 11 (-24) w2
  rw [hw3, hY]
  have hc12 := hb1.trans (hb2.mono hb1.size)
  have hc13 := hc12.trans (hb3.mono hc12.size)
  obtain ⟨x0, x1, x2, hd3⟩ := hcells w3 (Below.refl _ _)
  clear hcells hw3 hY hb1 hb2 hb3 hc12 hL1 hd3
  have HB3 := Lib.hid hc13
  clear hc13
  go_wp2_with fail
  refine (SB.out _).mono ?_
  rintro x w4 ⟨rfl, rfl⟩
  go_upto_if 52 with fail
  go_cut [12] (fun s wx => s = .int .u64 (sg : Int) ∧ wx = w4)
  case first =>
    cases sb with
    | true =>
      have E := Lib.hid (HSG.out.1 rfl)
      go_wp2_with fail
      go_meet
      exact ⟨by rw [E.out]; rfl, rfl⟩
    | false =>
      have E := Lib.hid (HSG.out.2 rfl)
      go_wp2_with fail
      go_meet
      exact ⟨by rw [E.out]; rfl, rfl⟩
  case rest =>
    obtain ⟨rfl, hw⟩ := hcut
    subst hw
    obtain ⟨w3, hw3⟩ : ∃ W, W = wc := ⟨_, rfl⟩
    subst hw3
    cases zb with
    | true =>
      have E := Lib.hid (HZB.out.1 rfl)
      go_wp2_with fail
      refine bodyPost_ret (v := .tuple #[.int .u64 (sg : Int), .bool true, .int .i64 0]) (by simp [results, Tryz.results27, go_sem]) rfl ?_
      exact ⟨by rw [E.out]; simp, HB3.out⟩
    | false =>
      have E := Lib.hid (HZB.out.2 rfl)
      go_wp2_with fail
      refine (II.out _).mono ?_
      rintro x w5 ⟨rfl, rfl⟩
      go_wp2_with fail
      refine bodyPost_ret (v := .tuple #[.int .u64 (Y2 : Int), .bool true, .int .i64 0]) (by simp [results, Tryz.results27, go_sem]) rfl ?_
      exact ⟨by rw [E.out, HY2.out], HB3.out⟩
theorem binbits_any16 (b : Nat) (hb : b < 18446744073709551616) (w : World) (hL : Laid w) :
    Calls Tryz.prog 27 #[.string ⟨(Fl.txt b).toArray⟩, .int .i64 16] w fun x w' => x = .returned (.tuple #[.int .u64 ((Fl.bitsR Fl.half b).1 : Int), .bool (Fl.bitsR Fl.half b).2, .int .i64 0]) ∧ Below w.heap.size w w' := by
  obtain ⟨d1, d2, d3, d4, d5⟩ := Fl.half_is
  unfold Fl.bitsR
  rw [d1, d2, d5]
  by_cases h1 : 9218868437227405312 < b % 9223372036854775808
  · rw [if_pos h1]
    exact binbits_nan16 b h1 w hL
  · rw [if_neg h1]
    by_cases h2 : b % 9223372036854775808 = 9218868437227405312
    · rw [if_pos h2]
      have h := binbits_spec16 b hb (.inr h2) w hL
      rw [if_neg (show ¬ b % 9223372036854775808 = 0 by omega)] at h
      exact h
    · rw [if_neg h2]
      by_cases h3 : b % 9223372036854775808 = 0
      · rw [if_pos h3]
        have h := binbits_spec16 b hb (.inl h3) w hL
        rw [if_pos h3, Nat.add_zero] at h
        exact h
      · rw [if_neg h3]
        exact binbits16 b hb w (by omega) (by omega) hL
set_option maxHeartbeats 4000000 in
set_option maxRecDepth 100000 in
theorem binbits_nan32 (b : Nat) (hn : 9218868437227405312 < b % 9223372036854775808) (w : World) (hL : Laid w) :
    Calls Tryz.prog 27 #[.string ⟨(Fl.txt b).toArray⟩, .int .i64 32] w fun x w' => x = .returned (.tuple #[.int .u64 2143289344, .bool true, .int .i64 0]) ∧ Below w.heap.size w w' := by
  have ht : Fl.txt b = [110, 97, 110] := by unfold Fl.txt; rw [if_pos hn]
  have PA := Lib.hid (fun W => parse_nan W)
  have OF := Lib.hid (fun W hW => of_32 W hW)
  have o1 : (FloatKind.f64.format.order 9221120237041090561 9221120237041090561 != some Ordering.eq) = true := by rw [ord_self (by decide)]; decide
  have q1 : bits .or .u64 2139095040 4194304 = (2143289344 : Int) := by decide
  have HL := Lib.hid hL
  rw [ht]
  clear hL hn ht
  go_enter Tryz.func27, Tryz.ntmps27
  go_wp2_with fail
  refine (PA.out _).mono ?_
  rintro x w1 ⟨rfl, hb1⟩
  go_wp2_with fail
  have hL1 := HL.out.on hb1
  refine (OF.out _ hL1).mono ?_
  rintro x w2 ⟨rfl, hb2⟩
  go_upto_region 5 with fail
  obtain ⟨w3, Y, hw3, hY, hb3, hcells⟩ := box_three 32 24 (-149) w2
  rw [hw3, hY]
  have hc12 := hb1.trans (hb2.mono hb1.size)
  have hc13 := hc12.trans (hb3.mono hc12.size)
  obtain ⟨x0, x1, x2, hd3⟩ := hcells w3 (Below.refl _ _)
  clear hcells hw3 hY hb1 hb2 hb3 hc12 hL1 hd3
  have HB3 := Lib.hid hc13
  clear hc13
  go_wp2_with fail
  refine bodyPost_ret (v := .tuple #[.int .u64 2143289344, .bool true, .int .i64 0]) (by simp [results, Tryz.results27, go_sem]) rfl ?_
  exact ⟨rfl, HB3.out⟩
set_option maxHeartbeats 4000000 in
set_option maxRecDepth 100000 in
theorem binbits_spec32 (b : Nat) (hb : b < 18446744073709551616) (hn : b % 9223372036854775808 = 0 ∨ b % 9223372036854775808 = 9218868437227405312) (w : World) (hL : Laid w) :
    Calls Tryz.prog 27 #[.string ⟨(Fl.txt b).toArray⟩, .int .i64 32] w fun x w' => x = .returned (.tuple #[.int .u64 (((if 9223372036854775808 ≤ b then 2147483648 else 0) + (if b % 9223372036854775808 = 0 then 0 else 2139095040) : Nat) : Int), .bool true, .int .i64 0]) ∧ Below w.heap.size w w' := by
  have hcan : Fl.canonW b = b := canon_self (by omega)
  have PA := fun W hW => parse_txt b hb W hW
  rw [hcan] at PA
  have PA := Lib.hid PA
  have OF := Lib.hid (fun W hW => of_32 W hW)
  have SB := Lib.hid (fun W => signbit_any b W hb)
  have II := Lib.hid (fun W => isinf_any b W hb)
  have o1 := ord_self hb
  rw [decide_eq_false (by omega)] at o1
  have o2 : (FloatKind.f64.format.order b 0 == some Ordering.eq) = decide (b % 9223372036854775808 = 0) := by
    rcases hn with h | h
    · exact ord_zero hb (by omega)
    · show (Ieee.Datum.order (Ieee.double.read b) (Ieee.double.read 0) == some Ordering.eq) = _
      rw [decide_eq_false (by omega), read_inf' hb h, read_num 0 (by decide)]
      cases decide (9223372036854775808 ≤ b) <;> rfl
  obtain ⟨sb, hsb⟩ : ∃ sb, decide (9223372036854775808 ≤ b) = sb := ⟨_, rfl⟩
  obtain ⟨sg, hsg⟩ : ∃ sg : Nat, (if 9223372036854775808 ≤ b then 2147483648 else 0) = sg := ⟨_, rfl⟩
  obtain ⟨zb, hzb⟩ : ∃ zb, decide (b % 9223372036854775808 = 0) = zb := ⟨_, rfl⟩
  obtain ⟨ad, had⟩ : ∃ ad : Nat, (if b % 9223372036854775808 = 0 then 0 else 2139095040) = ad := ⟨_, rfl⟩
  rw [hsb] at SB
  rw [hsg, had]
  rw [hzb] at o2
  have hii : (b % 9223372036854775808 == 9218868437227405312) = !zb := by
    rw [← hzb]
    rcases hn with h | h
    · rw [h]; decide
    · rw [h]; decide
  rw [hii] at II
  have HSG := Lib.hid (show (sb = true → sg = 2147483648) ∧ (sb = false → sg = 0) by
    rw [← hsb, ← hsg]
    by_cases h : 9223372036854775808 ≤ b
    · rw [if_pos h, decide_eq_true h]; exact ⟨fun _ => rfl, fun h => (nomatch h)⟩
    · rw [if_neg h, decide_eq_false h]; exact ⟨fun h => (nomatch h), fun _ => rfl⟩)
  have HZB := Lib.hid (show (zb = true → ad = 0) ∧ (zb = false → ad = 2139095040) by
    rw [← hzb, ← had]
    by_cases h : b % 9223372036854775808 = 0
    · rw [if_pos h, decide_eq_true h]; exact ⟨fun _ => rfl, fun h => (nomatch h)⟩
    · rw [if_neg h, decide_eq_false h]; exact ⟨fun h => (nomatch h), fun _ => rfl⟩)
  have hsgc : sg = 0 ∨ sg = 2147483648 := by rw [← hsg]; split <;> omega
  have o5 : bits .or .u64 (sg : Int) 2139095040 = ((sg + 2139095040 : Nat) : Int) := or_sign sg 2139095040 31 (by decide) (by decide) hsgc
  obtain ⟨Y2, hY2⟩ : ∃ Y2, sg + 2139095040 = Y2 := ⟨_, rfl⟩
  rw [hY2] at o5
  have HY2 := Lib.hid hY2
  have HL := Lib.hid hL
  clear hcan hb hn hL hsb hsg hzb had hii hsgc hY2
  go_enter Tryz.func27, Tryz.ntmps27
  go_wp2_with fail
  refine (PA.out _ HL.out).mono ?_
  rintro x w1 ⟨rfl, hb1⟩
  go_wp2_with fail
  have hL1 := HL.out.on hb1
  refine (OF.out _ hL1).mono ?_
  rintro x w2 ⟨rfl, hb2⟩
  go_upto_region 5 with fail
  obtain ⟨w3, Y, hw3, hY, hb3, hcells⟩ := box_three 32 24 (-149) w2
  rw [hw3, hY]
  have hc12 := hb1.trans (hb2.mono hb1.size)
  have hc13 := hc12.trans (hb3.mono hc12.size)
  obtain ⟨x0, x1, x2, hd3⟩ := hcells w3 (Below.refl _ _)
  clear hcells hw3 hY hb1 hb2 hb3 hc12 hL1 hd3
  have HB3 := Lib.hid hc13
  clear hc13
  go_wp2_with fail
  refine (SB.out _).mono ?_
  rintro x w4 ⟨rfl, rfl⟩
  go_upto_if 52 with fail
  go_cut [12] (fun s wx => s = .int .u64 (sg : Int) ∧ wx = w4)
  case first =>
    cases sb with
    | true =>
      have E := Lib.hid (HSG.out.1 rfl)
      go_wp2_with fail
      go_meet
      exact ⟨by rw [E.out]; rfl, rfl⟩
    | false =>
      have E := Lib.hid (HSG.out.2 rfl)
      go_wp2_with fail
      go_meet
      exact ⟨by rw [E.out]; rfl, rfl⟩
  case rest =>
    obtain ⟨rfl, hw⟩ := hcut
    subst hw
    obtain ⟨w3, hw3⟩ : ∃ W, W = wc := ⟨_, rfl⟩
    subst hw3
    cases zb with
    | true =>
      have E := Lib.hid (HZB.out.1 rfl)
      go_wp2_with fail
      refine bodyPost_ret (v := .tuple #[.int .u64 (sg : Int), .bool true, .int .i64 0]) (by simp [results, Tryz.results27, go_sem]) rfl ?_
      exact ⟨by rw [E.out]; simp, HB3.out⟩
    | false =>
      have E := Lib.hid (HZB.out.2 rfl)
      go_wp2_with fail
      refine (II.out _).mono ?_
      rintro x w5 ⟨rfl, rfl⟩
      go_wp2_with fail
      refine bodyPost_ret (v := .tuple #[.int .u64 (Y2 : Int), .bool true, .int .i64 0]) (by simp [results, Tryz.results27, go_sem]) rfl ?_
      exact ⟨by rw [E.out, HY2.out], HB3.out⟩
theorem binbits_any32 (b : Nat) (hb : b < 18446744073709551616) (w : World) (hL : Laid w) :
    Calls Tryz.prog 27 #[.string ⟨(Fl.txt b).toArray⟩, .int .i64 32] w fun x w' => x = .returned (.tuple #[.int .u64 ((Fl.bitsR Ieee.single b).1 : Int), .bool (Fl.bitsR Ieee.single b).2, .int .i64 0]) ∧ Below w.heap.size w w' := by
  obtain ⟨d1, d2, d3, d4, d5⟩ := Fl.single_is
  unfold Fl.bitsR
  rw [d1, d2, d5]
  by_cases h1 : 9218868437227405312 < b % 9223372036854775808
  · rw [if_pos h1]
    exact binbits_nan32 b h1 w hL
  · rw [if_neg h1]
    by_cases h2 : b % 9223372036854775808 = 9218868437227405312
    · rw [if_pos h2]
      have h := binbits_spec32 b hb (.inr h2) w hL
      rw [if_neg (show ¬ b % 9223372036854775808 = 0 by omega)] at h
      exact h
    · rw [if_neg h2]
      by_cases h3 : b % 9223372036854775808 = 0
      · rw [if_pos h3]
        have h := binbits_spec32 b hb (.inl h3) w hL
        rw [if_pos h3, Nat.add_zero] at h
        exact h
      · rw [if_neg h3]
        exact binbits32 b hb w (by omega) (by omega) hL
set_option maxHeartbeats 4000000 in
set_option maxRecDepth 100000 in
theorem binbits_nan64 (b : Nat) (hn : 9218868437227405312 < b % 9223372036854775808) (w : World) (hL : Laid w) :
    Calls Tryz.prog 27 #[.string ⟨(Fl.txt b).toArray⟩, .int .i64 64] w fun x w' => x = .returned (.tuple #[.int .u64 9221120237041090560, .bool true, .int .i64 0]) ∧ Below w.heap.size w w' := by
  have ht : Fl.txt b = [110, 97, 110] := by unfold Fl.txt; rw [if_pos hn]
  have PA := Lib.hid (fun W => parse_nan W)
  have OF := Lib.hid (fun W hW => of_64 W hW)
  have o1 : (FloatKind.f64.format.order 9221120237041090561 9221120237041090561 != some Ordering.eq) = true := by rw [ord_self (by decide)]; decide
  have q1 : bits .or .u64 9218868437227405312 2251799813685248 = (9221120237041090560 : Int) := by decide
  have HL := Lib.hid hL
  rw [ht]
  clear hL hn ht
  go_enter Tryz.func27, Tryz.ntmps27
  go_wp2_with fail
  refine (PA.out _).mono ?_
  rintro x w1 ⟨rfl, hb1⟩
  go_wp2_with fail
  have hL1 := HL.out.on hb1
  refine (OF.out _ hL1).mono ?_
  rintro x w2 ⟨rfl, hb2⟩
  go_upto_region 5 with fail
  obtain ⟨w3, Y, hw3, hY, hb3, hcells⟩ := box_three 64 53 (-1074) w2
  rw [hw3, hY]
  have hc12 := hb1.trans (hb2.mono hb1.size)
  have hc13 := hc12.trans (hb3.mono hc12.size)
  obtain ⟨x0, x1, x2, hd3⟩ := hcells w3 (Below.refl _ _)
  clear hcells hw3 hY hb1 hb2 hb3 hc12 hL1 hd3
  have HB3 := Lib.hid hc13
  clear hc13
  go_wp2_with fail
  refine bodyPost_ret (v := .tuple #[.int .u64 9221120237041090560, .bool true, .int .i64 0]) (by simp [results, Tryz.results27, go_sem]) rfl ?_
  exact ⟨rfl, HB3.out⟩
set_option maxHeartbeats 4000000 in
set_option maxRecDepth 100000 in
theorem binbits_spec64 (b : Nat) (hb : b < 18446744073709551616) (hn : b % 9223372036854775808 = 0 ∨ b % 9223372036854775808 = 9218868437227405312) (w : World) (hL : Laid w) :
    Calls Tryz.prog 27 #[.string ⟨(Fl.txt b).toArray⟩, .int .i64 64] w fun x w' => x = .returned (.tuple #[.int .u64 (((if 9223372036854775808 ≤ b then 9223372036854775808 else 0) + (if b % 9223372036854775808 = 0 then 0 else 9218868437227405312) : Nat) : Int), .bool true, .int .i64 0]) ∧ Below w.heap.size w w' := by
  have hcan : Fl.canonW b = b := canon_self (by omega)
  have PA := fun W hW => parse_txt b hb W hW
  rw [hcan] at PA
  have PA := Lib.hid PA
  have OF := Lib.hid (fun W hW => of_64 W hW)
  have SB := Lib.hid (fun W => signbit_any b W hb)
  have II := Lib.hid (fun W => isinf_any b W hb)
  have o1 := ord_self hb
  rw [decide_eq_false (by omega)] at o1
  have o2 : (FloatKind.f64.format.order b 0 == some Ordering.eq) = decide (b % 9223372036854775808 = 0) := by
    rcases hn with h | h
    · exact ord_zero hb (by omega)
    · show (Ieee.Datum.order (Ieee.double.read b) (Ieee.double.read 0) == some Ordering.eq) = _
      rw [decide_eq_false (by omega), read_inf' hb h, read_num 0 (by decide)]
      cases decide (9223372036854775808 ≤ b) <;> rfl
  obtain ⟨sb, hsb⟩ : ∃ sb, decide (9223372036854775808 ≤ b) = sb := ⟨_, rfl⟩
  obtain ⟨sg, hsg⟩ : ∃ sg : Nat, (if 9223372036854775808 ≤ b then 9223372036854775808 else 0) = sg := ⟨_, rfl⟩
  obtain ⟨zb, hzb⟩ : ∃ zb, decide (b % 9223372036854775808 = 0) = zb := ⟨_, rfl⟩
  obtain ⟨ad, had⟩ : ∃ ad : Nat, (if b % 9223372036854775808 = 0 then 0 else 9218868437227405312) = ad := ⟨_, rfl⟩
  rw [hsb] at SB
  rw [hsg, had]
  rw [hzb] at o2
  have hii : (b % 9223372036854775808 == 9218868437227405312) = !zb := by
    rw [← hzb]
    rcases hn with h | h
    · rw [h]; decide
    · rw [h]; decide
  rw [hii] at II
  have HSG := Lib.hid (show (sb = true → sg = 9223372036854775808) ∧ (sb = false → sg = 0) by
    rw [← hsb, ← hsg]
    by_cases h : 9223372036854775808 ≤ b
    · rw [if_pos h, decide_eq_true h]; exact ⟨fun _ => rfl, fun h => (nomatch h)⟩
    · rw [if_neg h, decide_eq_false h]; exact ⟨fun h => (nomatch h), fun _ => rfl⟩)
  have HZB := Lib.hid (show (zb = true → ad = 0) ∧ (zb = false → ad = 9218868437227405312) by
    rw [← hzb, ← had]
    by_cases h : b % 9223372036854775808 = 0
    · rw [if_pos h, decide_eq_true h]; exact ⟨fun _ => rfl, fun h => (nomatch h)⟩
    · rw [if_neg h, decide_eq_false h]; exact ⟨fun h => (nomatch h), fun _ => rfl⟩)
  have hsgc : sg = 0 ∨ sg = 9223372036854775808 := by rw [← hsg]; split <;> omega
  have o5 : bits .or .u64 (sg : Int) 9218868437227405312 = ((sg + 9218868437227405312 : Nat) : Int) := or_sign sg 9218868437227405312 63 (by decide) (by decide) hsgc
  obtain ⟨Y2, hY2⟩ : ∃ Y2, sg + 9218868437227405312 = Y2 := ⟨_, rfl⟩
  rw [hY2] at o5
  have HY2 := Lib.hid hY2
  have HL := Lib.hid hL
  clear hcan hb hn hL hsb hsg hzb had hii hsgc hY2
  go_enter Tryz.func27, Tryz.ntmps27
  go_wp2_with fail
  refine (PA.out _ HL.out).mono ?_
  rintro x w1 ⟨rfl, hb1⟩
  go_wp2_with fail
  have hL1 := HL.out.on hb1
  refine (OF.out _ hL1).mono ?_
  rintro x w2 ⟨rfl, hb2⟩
  go_upto_region 5 with fail
  obtain ⟨w3, Y, hw3, hY, hb3, hcells⟩ := box_three 64 53 (-1074) w2
  rw [hw3, hY]
  have hc12 := hb1.trans (hb2.mono hb1.size)
  have hc13 := hc12.trans (hb3.mono hc12.size)
  obtain ⟨x0, x1, x2, hd3⟩ := hcells w3 (Below.refl _ _)
  clear hcells hw3 hY hb1 hb2 hb3 hc12 hL1 hd3
  have HB3 := Lib.hid hc13
  clear hc13
  go_wp2_with fail
  refine (SB.out _).mono ?_
  rintro x w4 ⟨rfl, rfl⟩
  go_upto_if 52 with fail
  go_cut [12] (fun s wx => s = .int .u64 (sg : Int) ∧ wx = w4)
  case first =>
    cases sb with
    | true =>
      have E := Lib.hid (HSG.out.1 rfl)
      go_wp2_with fail
      go_meet
      exact ⟨by rw [E.out]; rfl, rfl⟩
    | false =>
      have E := Lib.hid (HSG.out.2 rfl)
      go_wp2_with fail
      go_meet
      exact ⟨by rw [E.out]; rfl, rfl⟩
  case rest =>
    obtain ⟨rfl, hw⟩ := hcut
    subst hw
    obtain ⟨w3, hw3⟩ : ∃ W, W = wc := ⟨_, rfl⟩
    subst hw3
    cases zb with
    | true =>
      have E := Lib.hid (HZB.out.1 rfl)
      go_wp2_with fail
      refine bodyPost_ret (v := .tuple #[.int .u64 (sg : Int), .bool true, .int .i64 0]) (by simp [results, Tryz.results27, go_sem]) rfl ?_
      exact ⟨by rw [E.out]; simp, HB3.out⟩
    | false =>
      have E := Lib.hid (HZB.out.2 rfl)
      go_wp2_with fail
      refine (II.out _).mono ?_
      rintro x w5 ⟨rfl, rfl⟩
      go_wp2_with fail
      refine bodyPost_ret (v := .tuple #[.int .u64 (Y2 : Int), .bool true, .int .i64 0]) (by simp [results, Tryz.results27, go_sem]) rfl ?_
      exact ⟨by rw [E.out, HY2.out], HB3.out⟩
theorem binbits_any64 (b : Nat) (hb : b < 18446744073709551616) (w : World) (hL : Laid w) :
    Calls Tryz.prog 27 #[.string ⟨(Fl.txt b).toArray⟩, .int .i64 64] w fun x w' => x = .returned (.tuple #[.int .u64 ((Fl.bitsR Ieee.double b).1 : Int), .bool (Fl.bitsR Ieee.double b).2, .int .i64 0]) ∧ Below w.heap.size w w' := by
  obtain ⟨d1, d2, d3, d4, d5⟩ := Fl.double_is
  unfold Fl.bitsR
  rw [d1, d2, d5]
  by_cases h1 : 9218868437227405312 < b % 9223372036854775808
  · rw [if_pos h1]
    exact binbits_nan64 b h1 w hL
  · rw [if_neg h1]
    by_cases h2 : b % 9223372036854775808 = 9218868437227405312
    · rw [if_pos h2]
      have h := binbits_spec64 b hb (.inr h2) w hL
      rw [if_neg (show ¬ b % 9223372036854775808 = 0 by omega)] at h
      exact h
    · rw [if_neg h2]
      by_cases h3 : b % 9223372036854775808 = 0
      · rw [if_pos h3]
        have h := binbits_spec64 b hb (.inl h3) w hL
        rw [if_pos h3, Nat.add_zero] at h
        exact h
      · rw [if_neg h3]
        exact binbits64 b hb w (by omega) (by omega) hL
set_option maxHeartbeats 4000000 in
set_option maxRecDepth 100000 in
theorem binbits_arg (b : Nat) (n : Int) (hb : b < 18446744073709551616) (n1 : n ≠ 16) (n2 : n ≠ 32) (n3 : n ≠ 64) (w : World) (hL : Laid w) :
    Calls Tryz.prog 27 #[.string ⟨(Fl.txt b).toArray⟩, .int .i64 n] w fun x w' => x = .returned (.tuple #[.int .u64 0, .bool false, .int .i64 1]) ∧ Below w.heap.size w w' := by
  have PA := Lib.hid (fun W hW => parse_txt b hb W hW)
  have OF := Lib.hid (fun W hW => of_none n W hW n1 n2 n3)
  have HL := Lib.hid hL
  clear hb hL n1 n2 n3
  go_enter Tryz.func27, Tryz.ntmps27
  go_wp2_with fail
  refine (PA.out _ HL.out).mono ?_
  rintro x w1 ⟨rfl, hb1⟩
  go_wp2_with fail
  have hL1 := HL.out.on hb1
  refine (OF.out _ hL1).mono ?_
  rintro x w2 ⟨rfl, hb2⟩
  go_upto_region 5 with fail
  obtain ⟨w3, Y, hw3, hY, hb3, hcells⟩ := box_three 0 0 0 w2
  rw [hw3]
  have hc12 := hb1.trans (hb2.mono hb1.size)
  have hc13 := hc12.trans (hb3.mono hc12.size)
  clear hcells hw3 hY hb1 hb2 hb3 hc12 hL1
  have HB3 := Lib.hid hc13
  clear hc13
  go_wp2_with fail
  refine bodyPost_ret (v := .tuple #[.int .u64 0, .bool false, .int .i64 1]) (by simp [results, Tryz.results27, go_sem]) rfl ?_
  exact ⟨rfl, HB3.out⟩
end Go.Proofs.YtjapgpmoojfhnaaGreatDoor
