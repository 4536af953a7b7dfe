/- parse at strings that are no canonical texts. -/
import Derived.Test.YtjapgpmoojfhnaaGreatDoorWalkZI
import Derived.Lib.AtoiAllCases
namespace Go.Proofs.YtjapgpmoojfhnaaGreatDoor
open Go.RowKit Go.Lib

/-- What fits asks. -/
def Fl.Fits (m : Nat) (e : Int) : Prop := m % 2 = 1 ∧ Lib.bitLen m ≤ 53 ∧ -1074 ≤ e ∧ e ≤ 1023 ∧ e + (Lib.bitLen m : Int) ≤ 1024
set_option maxHeartbeats 1000000 in
set_option maxRecDepth 100000 in
theorem fits_false (m : Nat) (e : Int) (w : World) (hm : m < 18446744073709551616) (hn : ¬ Fl.Fits m e) : Calls Tryz.prog 83 #[.int .u64 (m : Int), .int .i64 e] w fun x w' => x = .returned (.bool false) ∧ w' = w := by
  have LN := fun W => Tryz.bits_Len64 (m : Int) W (by omega) (by omega)
  rw [Int.toNat_natCast] at LN
  unfold Fl.Fits at hn
  obtain ⟨L, hL⟩ : ∃ L, Lib.bitLen m = L := ⟨_, rfl⟩
  rw [hL] at LN hn
  have LN := Lib.hid LN
  obtain ⟨q, hq⟩ : ∃ q, m % 2 = q := ⟨_, rfl⟩
  have g1 : (m : Int) % 2 = (q : Int) := by omega
  have g2 : Int.tmod (m : Int) 2 = (q : Int) := by rw [Int.tmod_eq_emod_of_nonneg (by omega)]; exact g1
  rw [hq] at hn
  clear hm hL hq
  by_cases h1 : q = 1
  · subst h1
    by_cases h2 : L ≤ 53
    · have c2 : decide (L ≤ 53) = true := decide_eq_true h2
      have c2b : decide ((L : Int) ≤ 53) = true := decide_eq_true (by omega)
      by_cases h3 : -1074 ≤ e
      · have c3 : decide (-1074 ≤ e) = true := decide_eq_true h3
        by_cases h4 : e ≤ 1023
        · have c4 : decide (e ≤ 1023) = true := decide_eq_true h4
          have g3 : IntKind.i64.wrap (e + (L : Int)) = e + (L : Int) := IntWalk.i64_in _ (by omega)
          have c5 : decide (e + (L : Int) ≤ 1024) = false := decide_eq_false (by omega)
          clear hn h2 h3 h4
          go_enter Tryz.func83, Tryz.ntmps83
          go_wp2_with fail
          refine (LN.out _).mono ?_
          rintro x w1 ⟨rfl, rfl⟩
          go_wp2_with fail
          go_ret
          exact ⟨rfl, rfl⟩
        · have c4 : decide (e ≤ 1023) = false := decide_eq_false h4
          clear hn h2 h3 h4
          go_enter Tryz.func83, Tryz.ntmps83
          go_wp2_with fail
          refine (LN.out _).mono ?_
          rintro x w1 ⟨rfl, rfl⟩
          go_wp2_with fail
          go_ret
          exact ⟨rfl, rfl⟩
      · have c3 : decide (-1074 ≤ e) = false := decide_eq_false h3
        clear hn h2 h3
        go_enter Tryz.func83, Tryz.ntmps83
        go_wp2_with fail
        refine (LN.out _).mono ?_
        rintro x w1 ⟨rfl, rfl⟩
        go_wp2_with fail
        go_ret
        exact ⟨rfl, rfl⟩
    · have c2 : decide (L ≤ 53) = false := decide_eq_false h2
      have c2b : decide ((L : Int) ≤ 53) = false := decide_eq_false (by omega)
      clear hn h2
      go_enter Tryz.func83, Tryz.ntmps83
      go_wp2_with fail
      refine (LN.out _).mono ?_
      rintro x w1 ⟨rfl, rfl⟩
      go_wp2_with fail
      go_ret
      exact ⟨rfl, rfl⟩
  · have c1 : ((q : Int) == 1) = false := by rw [beq_eq_false_iff_ne]; omega
    clear hn h1
    go_enter Tryz.func83, Tryz.ntmps83
    go_wp2_with fail
    refine (LN.out _).mono ?_
    rintro x w1 ⟨rfl, rfl⟩
    go_wp2_with fail
    go_ret
    exact ⟨rfl, rfl⟩
/-- A number that fits has a word. -/
theorem Fl.fits_word {m : Nat} {e : Int} (h : Fl.Fits m e) (hm : m < 18446744073709551616) : 0 < m ∧ m < 9007199254740992 ∧ m.log2 ≤ 52 ∧ e + (m.log2 + 1 : Nat) ≤ 1024 ∧ ∃ R, 0 < R ∧ R < 9218868437227405312 ∧ Fl.Same m e (Fl.rmag Ieee.double R) (Fl.rplace Ieee.double R) := by
  obtain ⟨h1, h2, h3, h4, h5⟩ := h
  have h0 : m ≠ 0 := by omega
  rw [Fl.bitLen_log2 m h0 hm] at h2 h5
  have hl : m < 9007199254740992 := by
    have := (Nat.log2_lt h0).1 (Nat.lt_succ_self m.log2)
    exact Nat.lt_of_lt_of_le this (Nat.le_trans (Nat.pow_le_pow_right (by decide) (show m.log2.succ ≤ 53 by omega)) (by decide))
  refine ⟨by omega, hl, by omega, by omega, ?_⟩
  by_cases hn : -1022 ≤ e + m.log2
  · exact Fl.same_word (by omega) hl hn (by omega)
  · obtain ⟨d, hd⟩ : ∃ d : Nat, e + 1074 = (d : Int) := ⟨(e + 1074).toNat, by omega⟩
    have hb : m * 2 ^ d < 4503599627370496 := by
      have := (Nat.log2_lt h0).1 (Nat.lt_succ_self m.log2)
      have h6 : m * 2 ^ d < 2 ^ m.log2.succ * 2 ^ d := Nat.mul_lt_mul_of_pos_right this (Nat.two_pow_pos _)
      rw [← Nat.pow_add] at h6
      exact Nat.lt_of_lt_of_le h6 (Nat.le_trans (Nat.pow_le_pow_right (by decide) (show m.log2.succ + d ≤ 52 by omega)) (by decide))
    have hp : 0 < m * 2 ^ d := Nat.mul_pos (by omega) (Nat.two_pow_pos _)
    refine ⟨m * 2 ^ d, hp, by omega, ?_⟩
    have e1 : Fl.rmag Ieee.double (m * 2 ^ d) = m * 2 ^ d := by unfold Fl.rmag; rw [Fl.d_binade, if_pos hb]
    have e2 : Fl.rplace Ieee.double (m * 2 ^ d) = -1074 := by unfold Fl.rplace; rw [Fl.d_binade, if_pos hb, Fl.d_least]
    rw [e1, e2]
    exact .inr ⟨d, rfl, by omega⟩
/-- The sign before a text. -/
theorem minus_split (l : List UInt8) : l = (if Lib.hasPrefix l [45] = true then [45] else []) ++ Lib.trimPrefix l [45] := by
  cases l with
  | nil => rfl
  | cons c l =>
    by_cases h : c = 45
    · subst h
      obtain ⟨p1, p2⟩ := pre_minus l
      rw [p1, p2]
      rfl
    · obtain ⟨p1, p2⟩ := pre_none (X := c :: l) (by simp; exact h)
      rw [p1, p2]
      rfl
/-- A word and its sign. -/
theorem txt_sign (g : Bool) {R : Nat} (hR : R < 9218868437227405313) : ∃ b, b < 18446744073709551616 ∧ Fl.txt b = (if g = true then [45] else []) ++ Fl.txt R := by
  have h1 : Fl.sgB R = [] := by unfold Fl.sgB; rw [if_neg (by omega)]
  cases g with
  | false => exact ⟨R, by omega, rfl⟩
  | true =>
    refine ⟨R + 9223372036854775808, by omega, ?_⟩
    have h2 : (R + 9223372036854775808) % 9223372036854775808 = R % 9223372036854775808 := by omega
    have h3 : Fl.sgB (R + 9223372036854775808) = [45] := by unfold Fl.sgB; rw [if_pos (by omega)]
    have h4 : R % 9223372036854775808 = R := Nat.mod_eq_of_lt (by omega)
    have e : ¬ 9218868437227405312 < R := by omega
    unfold Fl.txt
    rw [h1, h2, h3, h4]
    simp only [if_neg e]
    split
    · rfl
    · split <;> rfl
theorem txt_num {R : Nat} (h0 : 0 < R) (h : R < 9218868437227405312) : Fl.txt R = Fl.numB R := by
  have h2 : R % 9223372036854775808 = R := Nat.mod_eq_of_lt (by omega)
  rw [Fl.txt, h2, if_neg (by omega), if_neg (by omega), if_neg (by omega), Fl.sgB, if_neg (by omega), List.nil_append]
theorem cut_len (l : List UInt8) : (Lib.cut l [112]).1.length ≤ l.length ∧ (Lib.cut l [112]).2.1.length ≤ l.length := by
  unfold Lib.cut
  split
  · simp
    omega
  · simp
theorem ba_of (s : ByteArray) : (⟨s.data.toList.toArray⟩ : ByteArray) = s := by cases s; simp
theorem ba_size (s : ByteArray) : s.size = s.data.toList.length := by rw [Array.length_toList]; rfl
theorem ba_list' {s : ByteArray} {m : List UInt8} (h : s.data.toList ≠ m) : (s.toList == m) = false := by
  have := ba_list h
  rwa [ba_of] at this
set_option maxHeartbeats 4000000 in
set_option maxRecDepth 100000 in
theorem parse_bad (s : ByteArray) (hs : s.size ≤ 300) (hc : ∀ b, b < 18446744073709551616 → s.data.toList ≠ Fl.txt b) (w : World) (hL : Laid w) :
    Calls Tryz.prog 58 #[.string s] w fun x w' => x = .returned (.tuple #[.float .f64 0, .bool false]) ∧ Below w.heap.size w w' := by
  obtain ⟨X, hX⟩ : ∃ X, Lib.trimPrefix s.data.toList [45] = X := ⟨_, rfl⟩
  obtain ⟨g, hg⟩ : ∃ g, Lib.hasPrefix s.data.toList [45] = g := ⟨_, rfl⟩
  have hsX := minus_split s.data.toList
  rw [hX, hg] at hsX
  have hXl : X.length ≤ 300 := by
    rw [ba_size] at hs
    have := congrArg List.length hsX
    rw [List.length_append] at this
    omega
  obtain ⟨XB, hXB⟩ : ∃ XB : ByteArray, (⟨X.toArray⟩ : ByteArray) = XB := ⟨_, rfl⟩
  have hXBl : XB.data.toList = X := by rw [← hXB]
  have hXBs : XB.size ≤ 300 := by rw [ba_size, hXBl]; exact hXl
  have CP : ∀ W, Calls Tryz.prog 102 #[.string s, .string ⟨#[45]⟩] W fun e w' => e = .returned (.tuple #[.string XB, .bool g]) ∧ w' = W := fun W => by
    have h := Tryz.strings_CutPrefix s ⟨#[45]⟩ W
    rw [show (⟨#[45]⟩ : ByteArray).data.toList = [45] from rfl, hX, hg, hXB] at h
    exact h
  have hne : ∀ R, R < 9218868437227405313 → X ≠ Fl.txt R := fun R hR he => by
    obtain ⟨b, hb, ht⟩ := txt_sign g hR
    exact hc b hb (by rw [ht, ← he]; exact hsX)
  have n1 : (s.toList == [110, 97, 110]) = false := ba_list' (fun he => hc 9221120237041090561 (by decide) (by rw [he]; kernel_rfl))
  have n2 : (XB.toList == [105, 110, 102]) = false := ba_list' (by rw [hXBl]; exact fun he => hne 9218868437227405312 (by decide) (by rw [he]; kernel_rfl))
  have n3 : (XB.toList == [48, 112, 48]) = false := ba_list' (by rw [hXBl]; exact fun he => hne 0 (by decide) (by rw [he]; kernel_rfl))
  obtain ⟨cl1, cl2⟩ := cut_len X
  obtain ⟨A, hA⟩ : ∃ A : ByteArray, (⟨(Lib.cut X [112]).1.toArray⟩ : ByteArray) = A := ⟨_, rfl⟩
  obtain ⟨B, hB⟩ : ∃ B : ByteArray, (⟨(Lib.cut X [112]).2.1.toArray⟩ : ByteArray) = B := ⟨_, rfl⟩
  obtain ⟨k, hk⟩ : ∃ k, (Lib.cut X [112]).2.2 = k := ⟨_, rfl⟩
  have hAs : A.size ≤ 300 := by rw [← hA, str_size]; omega
  have hBs : B.size ≤ 300 := by rw [← hB, str_size]; omega
  have CU : ∀ W, Laid W → Calls Tryz.prog 48 #[.string XB, .string ⟨#[112]⟩] W fun x w' => x = .returned (.tuple #[.string A, .string B, .bool k]) ∧ Below W.heap.size W w' := fun W hW => by
    obtain ⟨mm, hmm⟩ := hW.2.2.2.2.2.1
    have h := Tryz.strings_Cut XB ⟨#[112]⟩ mm W (by omega) hmm
    rw [hXBl, show (⟨#[112]⟩ : ByteArray).data.toList = [112] from rfl, hA, hB, hk] at h
    refine h.mono ?_
    rintro x w' ⟨rfl, n, rfl⟩
    exact ⟨rfl, below_drewN (Below.refl _ _) n⟩
  have CP := Lib.hid CP
  have CU := Lib.hid CU
  have HL := Lib.hid hL
  have HNE := Lib.hid (And.intro hne hXBl)
  clear hs hc hsX hXl hX hg hXB hXBl hXBs hne cl1 cl2 hA hB hk hL
  -- the two numbers, each read or not
  have UA : ∃ (mo : Option Nat), (∀ m, mo = some m → m < 18446744073709551616) ∧ ∀ W, Laid W → Calls Tryz.prog 104 #[.string A, .int .i64 10, .int .i64 64] W fun x w' => ∃ (u : Int) (ev : Value), x = .returned (.tuple #[.int .u64 u, ev]) ∧ Below W.heap.size W w' ∧ (∀ m, mo = some m → u = (m : Int) ∧ ev = .nilIface) ∧ (mo = none → ∃ N, ev = .iface 174 (.pointer (some ⟨N, 0, none⟩))) := by
    by_cases h : ∃ u, Lib.parseUintB 64 A.data.toList = .ok u
    · obtain ⟨u, hu⟩ := h
      refine ⟨some u, fun m hm => ?_, fun W _ => (uint_ok A (by omega) u hu W).mono ?_⟩
      · cases hm
        rw [Lib.parseUintB_64] at hu
        exact Lib.parseMag_lt hu
      · rintro x w' ⟨rfl, hb⟩
        exact ⟨_, _, rfl, hb, fun m hm => (by cases hm; exact ⟨rfl, rfl⟩), fun h => (by cases h)⟩
    · refine ⟨none, fun m hm => (by cases hm), fun W hW => (uint_bad A (by omega) (fun v hv => h ⟨v, hv⟩) W hW).mono ?_⟩
      rintro x w' ⟨u, N, rfl, hb⟩
      exact ⟨_, _, rfl, hb, fun m hm => by (cases hm), fun _ => ⟨N, rfl⟩⟩
  have AB : ∃ (eo : Option Int), ∀ W, Laid W → Calls Tryz.prog 105 #[.string B] W fun x w' => ∃ (v : Int) (ev : Value), x = .returned (.tuple #[.int .i64 v, ev]) ∧ Below W.heap.size W w' ∧ (∀ e, eo = some e → v = e ∧ ev = .nilIface) ∧ (eo = none → ∃ N, ev = .iface 174 (.pointer (some ⟨N, 0, none⟩))) := by
    by_cases h : ∃ u, Lib.atoiAll B.data.toList = .ok u
    · obtain ⟨u, hu⟩ := h
      refine ⟨some u, fun W _ => (atoi_ok B (by omega) u hu W).mono ?_⟩
      rintro x w' ⟨rfl, hb⟩
      exact ⟨_, _, rfl, hb, fun m hm => (by cases hm; exact ⟨rfl, rfl⟩), fun h => (by cases h)⟩
    · refine ⟨none, fun W hW => (atoi_bad B (by omega) (fun v hv => h ⟨v, hv⟩) W hW).mono ?_⟩
      rintro x w' ⟨u, N, rfl, hb⟩
      exact ⟨_, _, rfl, hb, fun m hm => by (cases hm), fun _ => ⟨N, rfl⟩⟩
  obtain ⟨mo, hmo, UA⟩ := UA
  obtain ⟨eo, AB⟩ := AB
  have UA := Lib.hid UA
  have AB := Lib.hid AB
  clear hAs hBs
  by_cases hgood : k = true ∧ ∃ m e, mo = some m ∧ eo = some e ∧ Fl.Fits m e
  · obtain ⟨rfl, m, e, rfl, rfl, hf⟩ := hgood
    have hm64 := hmo m rfl
    obtain ⟨f1, f2, f3, f4, R, r1, r2, r3⟩ := Fl.fits_word hf hm64
    have FI := Lib.hid (fun W => fits_true m e W f1 f2 hf.1 f3 hf.2.2.1 hf.2.2.2.1 f4)
    have LD := fun W => ldexp_any m e R W f1 f2 (by have := hf.2.2.1; have := hf.2.2.2.1; omega) r1 r2 r3
    have cv := cvt_nat m f1 f2
    obtain ⟨f0, hf0⟩ : ∃ f0, Fl.wordN m = f0 := ⟨_, rfl⟩
    rw [hf0] at LD cv
    have TX := fun W hW => text_any R (by omega) W hW
    obtain ⟨TR, hTR⟩ : ∃ TR : ByteArray, (⟨(Fl.txt R).toArray⟩ : ByteArray) = TR := ⟨_, rfl⟩
    rw [hTR] at TX
    have n5 : (TR.toList == XB.toList) = false := by
      rw [beq_eq_false_iff_ne, Lib.toList_data, Lib.toList_data]
      intro he
      have h1 : TR.data.toList = Fl.txt R := by rw [← hTR]
      exact HNE.out.1 R (by omega) (by rw [← HNE.out.2, ← he, h1])
    have LD := Lib.hid LD
    have TX := Lib.hid TX
    clear hf hm64 f1 f2 f3 f4 r1 r2 r3 hf0 hTR hmo
    go_enter Tryz.func58, Tryz.ntmps58
    go_wp2_with fail
    refine (CP.out _).mono ?_
    rintro x w1 ⟨rfl, rfl⟩
    go_wp2_with fail
    refine (CU.out _ HL.out).mono ?_
    rintro x w2 ⟨rfl, hb2⟩
    go_wp2_with fail
    refine (UA.out _ (HL.out.on hb2)).mono ?_
    rintro x w3 ⟨u, ev, rfl, hb3, hu, _⟩
    obtain ⟨rfl, rfl⟩ := hu m rfl
    have hb3 := b_trans hb2 hb3
    clear hb2 hu
    go_wp2_with fail
    refine (AB.out _ (HL.out.on hb3)).mono ?_
    rintro x w4 ⟨v, ev, rfl, hb4, hv, _⟩
    obtain ⟨rfl, rfl⟩ := hv e rfl
    have hb4 := b_trans hb3 hb4
    clear hb3 hv
    go_wp2_with fail
    refine (FI.out _).mono ?_
    rintro x w5 ⟨rfl, rfl⟩
    go_wp2_with fail
    refine (LD.out _).mono ?_
    rintro x w6 ⟨rfl, rfl⟩
    go_wp2_with fail
    refine (TX.out _ (HL.out.on hb4)).mono ?_
    rintro x w7 ⟨rfl, hb7⟩
    go_wp2_with fail
    go_ret2
    exact ⟨rfl, b_trans hb4 hb7⟩
  · cases k with
    | false =>
      clear hgood hmo
      go_enter Tryz.func58, Tryz.ntmps58
      go_wp2_with fail
      refine (CP.out _).mono ?_
      rintro x w1 ⟨rfl, rfl⟩
      go_wp2_with fail
      refine (CU.out _ HL.out).mono ?_
      rintro x w2 ⟨rfl, hb2⟩
      go_wp2_with fail
      refine (UA.out _ (HL.out.on hb2)).mono ?_
      rintro x w3 ⟨u, ev, rfl, hb3, hu, hu2⟩
      have hb3 := b_trans hb2 hb3
      clear hb2 hu hu2
      go_wp2_with fail
      refine (AB.out _ (HL.out.on hb3)).mono ?_
      rintro x w4 ⟨v, ev', rfl, hb4, hv, hv2⟩
      have hb4 := b_trans hb3 hb4
      clear hb3 hv hv2
      go_wp2_with fail
      go_ret2
      exact ⟨rfl, hb4⟩
    | true =>
      cases mo with
      | none =>
        clear hgood hmo
        go_enter Tryz.func58, Tryz.ntmps58
        go_wp2_with fail
        refine (CP.out _).mono ?_
        rintro x w1 ⟨rfl, rfl⟩
        go_wp2_with fail
        refine (CU.out _ HL.out).mono ?_
        rintro x w2 ⟨rfl, hb2⟩
        go_wp2_with fail
        refine (UA.out _ (HL.out.on hb2)).mono ?_
        rintro x w3 ⟨u, ev, rfl, hb3, hu, hu2⟩
        obtain ⟨NU, rfl⟩ := hu2 (by simp)
        have hb3 := b_trans hb2 hb3
        clear hb2 hu hu2
        go_wp2_with fail
        refine (AB.out _ (HL.out.on hb3)).mono ?_
        rintro x w4 ⟨v, ev', rfl, hb4, hv, hv2⟩
        have hb4 := b_trans hb3 hb4
        clear hb3 hv hv2
        go_wp2_with fail
        go_ret2
        exact ⟨rfl, hb4⟩
      | some m =>
        have hm64 := hmo m rfl
        cases eo with
        | none =>
          clear hgood hmo hm64
          go_enter Tryz.func58, Tryz.ntmps58
          go_wp2_with fail
          refine (CP.out _).mono ?_
          rintro x w1 ⟨rfl, rfl⟩
          go_wp2_with fail
          refine (CU.out _ HL.out).mono ?_
          rintro x w2 ⟨rfl, hb2⟩
          go_wp2_with fail
          refine (UA.out _ (HL.out.on hb2)).mono ?_
          rintro x w3 ⟨u, ev, rfl, hb3, hu, hu2⟩
          obtain ⟨rfl, rfl⟩ := hu m rfl
          have hb3 := b_trans hb2 hb3
          clear hb2 hu hu2
          go_wp2_with fail
          refine (AB.out _ (HL.out.on hb3)).mono ?_
          rintro x w4 ⟨v, ev', rfl, hb4, hv, hv2⟩
          obtain ⟨NV, rfl⟩ := hv2 (by simp)
          have hb4 := b_trans hb3 hb4
          clear hb3 hv hv2
          go_wp2_with fail
          go_ret2
          exact ⟨rfl, hb4⟩
        | some e =>
          have FI := Lib.hid (fun W => fits_false m e W hm64 (fun hf => hgood ⟨rfl, m, e, rfl, rfl, hf⟩))
          clear hgood hmo hm64
          go_enter Tryz.func58, Tryz.ntmps58
          go_wp2_with fail
          refine (CP.out _).mono ?_
          rintro x w1 ⟨rfl, rfl⟩
          go_wp2_with fail
          refine (CU.out _ HL.out).mono ?_
          rintro x w2 ⟨rfl, hb2⟩
          go_wp2_with fail
          refine (UA.out _ (HL.out.on hb2)).mono ?_
          rintro x w3 ⟨u, ev, rfl, hb3, hu, hu2⟩
          obtain ⟨rfl, rfl⟩ := hu m rfl
          have hb3 := b_trans hb2 hb3
          clear hb2 hu hu2
          go_wp2_with fail
          refine (AB.out _ (HL.out.on hb3)).mono ?_
          rintro x w4 ⟨v, ev', rfl, hb4, hv, hv2⟩
          obtain ⟨rfl, rfl⟩ := hv e rfl
          have hb4 := b_trans hb3 hb4
          clear hb3 hv hv2
          go_wp2_with fail
          refine (FI.out _).mono ?_
          rintro x w5 ⟨rfl, rfl⟩
          go_wp2_with fail
          go_ret2
          exact ⟨rfl, hb4⟩
end Go.Proofs.YtjapgpmoojfhnaaGreatDoor
