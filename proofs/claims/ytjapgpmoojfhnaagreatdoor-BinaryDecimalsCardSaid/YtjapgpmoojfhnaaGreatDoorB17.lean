/- binary.Of at canonical texts. binary.Of at nought. ref03's Of at canonical texts: the bytes of a text behind its sign. -/
import Derived.Test.YtjapgpmoojfhnaaGreatDoorB16
namespace Go.Proofs.YtjapgpmoojfhnaaGreatDoor
open Go.RowKit Go.Lib

theorem or_low (m d p : Nat) (hm : m < 2 ^ p) (hd : d * 2 ^ p < 18446744073709551616) (hm2 : m < 18446744073709551616) : bits .or .u64 (m : Int) ((d * 2 ^ p : Nat) : Int) = ((m + d * 2 ^ p : Nat) : Int) := by
  have h := u64_or_nat m (d * 2 ^ p) hm2 hd
  have e : m ||| d * 2 ^ p = m + d * 2 ^ p := by
    have := Nat.two_pow_add_eq_or_of_lt hm d
    rw [Nat.or_comm, Nat.mul_comm d, ← this, Nat.add_comm]
  rw [e] at h
  exact h
theorem p256 (j : Nat) : 256 ^ j = 2 ^ (8 * j) := by rw [Nat.pow_mul]
theorem neg_word (R : Nat) (hR : R < 9223372036854775808) (W : World) : (Op.unary .neg (.float .f64 R)).run Tryz.prog W = .ok (.float .f64 (R + 9223372036854775808)) W := by
  have h : Op.negFloat .f64 R = R + 9223372036854775808 := by
    have h1 : R + 9223372036854775808 = 2 ^ 63 ||| R := by
      have := Nat.two_pow_add_eq_or_of_lt (i := 63) (b := R) hR 1
      rw [Nat.mul_one] at this
      rw [← this, Nat.add_comm]
    rw [h1]
    show R ^^^ 2 ^ 63 = 2 ^ 63 ||| R
    apply Nat.eq_of_testBit_eq
    intro i
    rw [Nat.testBit_xor, Nat.testBit_or, Nat.testBit_two_pow]
    by_cases hi : 63 = i
    · subst hi
      rw [Nat.testBit_lt_two_pow (x := R) (i := 63) hR]
      rfl
    · rw [decide_eq_false hi]
      simp
  show (pure (Value.float .f64 (Op.negFloat .f64 R)) : Sem Value).run Tryz.prog W = _
  rw [h]
  rfl
theorem ReadPre.sgn {s T : ByteArray} {g : Bool} (h : ReadPre s T g) : ∃ h0 : 0 < s.size, (((s[0]'h0).toNat : Int) == 45) = g := by
  have hp := h.pos
  by_cases h1 : 1 < s.size
  · exact ⟨by omega, h.head h1⟩
  · have hg : g = false := by
      cases g with
      | false => rfl
      | true => exact absurd (h.len rfl) h1
    subst hg
    obtain rfl := h.whole rfl
    refine ⟨hp, ?_⟩
    have h2 := (h.digs 0 hp).1
    rw [beq_eq_false_iff_ne]
    omega
theorem odd_pow {c c' t t' : Nat} (h : c * 2 ^ t = c' * 2 ^ t') (hc : c % 2 = 1) (hc' : c' % 2 = 1) : c = c' ∧ t = t' := by
  have key : ∀ {a b i j : Nat}, a * 2 ^ i = b * 2 ^ j → a % 2 = 1 → i < j → False := fun {a b i j} h ha hij => by
    obtain ⟨d, rfl⟩ : ∃ d, j = i + (d + 1) := ⟨j - i - 1, by omega⟩
    rw [Nat.pow_add, Nat.mul_comm (2 ^ i), ← Nat.mul_assoc] at h
    have := Nat.eq_of_mul_eq_mul_right (Nat.two_pow_pos i) h
    rw [Nat.pow_succ, ← Nat.mul_assoc] at this
    omega
  rcases Nat.lt_trichotomy t t' with h1 | h1 | h1
  · exact (key h hc h1).elim
  · subst h1
    exact ⟨Nat.eq_of_mul_eq_mul_right (Nat.two_pow_pos t) h, rfl⟩
  · exact (key h.symm hc' h1).elim
theorem too_long {M z c t : Nat} (h : M * 256 ^ z = c * 2 ^ t) (hM : 18446744073709551616 ≤ M) (hl : M % 256 ≠ 0) (hc : c < 9007199254740992) : False := by
  rw [p256] at h
  by_cases h1 : 8 * z + 8 ≤ t
  · obtain ⟨d, rfl⟩ : ∃ d, t = 8 * z + (8 + d) := ⟨t - 8 * z - 8, by omega⟩
    rw [Nat.pow_add, Nat.mul_comm (2 ^ (8 * z)), ← Nat.mul_assoc] at h
    have := Nat.eq_of_mul_eq_mul_right (Nat.two_pow_pos (8 * z)) h
    rw [Nat.pow_add, Nat.mul_comm (2 ^ 8), ← Nat.mul_assoc] at this
    apply hl
    rw [this]
    exact Nat.mul_mod_left _ _
  · have h2 : c * 2 ^ t ≤ 9007199254740992 * 2 ^ (8 * z + 7) := Nat.mul_le_mul (by omega) (Nat.pow_le_pow_right (by omega) (by omega))
    have h3 : 18446744073709551616 * 2 ^ (8 * z) ≤ M * 2 ^ (8 * z) := Nat.mul_le_mul_right _ hM
    rw [Nat.pow_add] at h2
    have h4 := Nat.two_pow_pos (8 * z)
    omega
/-- How binary.Of ends. -/
def OfRes (N : Nat) (g : Bool) (e : Int) (x : Ending) : Prop :=
  (∃ c t R : Nat, c % 2 = 1 ∧ N = c * 2 ^ t ∧ c < 18446744073709551616 ∧ Fl.Fits c (e + t) ∧ 0 < R ∧ R < 9218868437227405312 ∧ Fl.Same c (e + t) (Fl.rmag Ieee.double R) (Fl.rplace Ieee.double R) ∧ x = .returned (.tuple #[.string ⟨(Fl.txt (if g = true then R + 9223372036854775808 else R)).toArray⟩, .int .i64 0])) ∨
  ((∀ c t : Nat, c % 2 = 1 → N = c * 2 ^ t → c < 9007199254740992 → ¬ Fl.Fits c (e + t)) ∧ x = .returned (.tuple #[.string ⟨#[]⟩, .int .i64 2]))
theorem Gath.long {N k z m : Nat} (h : Gath N k z m) (h8 : 56 < 8 * (k - z)) (hD : N / 256 ^ k ≠ 0) (e : Int) : OfRes N false e (.returned (.tuple #[.string ⟨#[]⟩, .int .i64 2])) := by
  refine .inr ⟨fun c t _ hN hc _ => ?_, rfl⟩
  obtain ⟨h1, h2, h3, h4, h5, h6⟩ := h
  have hm : m ≠ 0 := fun h0 => by have := h5 h0; omega
  obtain rfl : k = z + 8 := by omega
  rw [Nat.add_comm z 8, Nat.pow_add, ← Nat.mul_assoc, ← Nat.add_mul, hN] at h4
  refine too_long h4 ?_ ?_ hc
  · obtain ⟨D, hDe⟩ : ∃ D, c * 2 ^ t / (256 ^ 8 * 256 ^ z) = D := ⟨_, rfl⟩
    have hD1 : 0 < N / 256 ^ (z + 8) := Nat.pos_of_ne_zero hD
    rw [hN, Nat.add_comm z 8, Nat.pow_add, hDe] at hD1
    rw [hDe]
    have e8 : (256 : Nat) ^ 8 = 18446744073709551616 := by decide
    rw [e8]
    omega
  · have h7 := h6 hm
    have e8 : (256 : Nat) ^ 8 = 18446744073709551616 := by decide
    rw [e8]
    omega
theorem OfRes.flip {N : Nat} {e : Int} {g : Bool} (h : OfRes N false e (.returned (.tuple #[.string ⟨#[]⟩, .int .i64 2]))) : OfRes N g e (.returned (.tuple #[.string ⟨#[]⟩, .int .i64 2])) := by
  rcases h with ⟨c, t, R, _, _, _, _, _, _, _, hx⟩ | h
  · simp at hx
  · exact .inr h
set_option maxHeartbeats 4000000 in
set_option maxRecDepth 100000 in
theorem of38_any (s T : ByteArray) (g : Bool) (hp : ReadPre s T g) (N : Nat) (hN : dv (ldig T) = N) (hN0 : 0 < N) (h256 : N < 256 ^ 200) (h48 : s.data.toList ≠ [48]) (e : Int) (he : -9223372036854775808 ≤ e ∧ e ≤ 9223372036854775807) (w : World) (hL : Laid w) :
    Calls Tryz.prog 38 #[.string s, .int .i64 e] w fun x w' => OfRes N g e x ∧ Below w.heap.size w w' := by
  have VA := Lib.hid (fun W => intvalid_good s T g hp W)
  have MG := fun W => magnitude_good s T g hp W N hN hN0 h256
  obtain ⟨n, hn⟩ : ∃ n, (Fl.byteL N).length = n := ⟨_, rfl⟩
  obtain ⟨BS, hBS⟩ : ∃ BS : ByteArray, (⟨((Fl.byteL N).reverse.map UInt8.ofNat).toArray⟩ : ByteArray) = BS := ⟨_, rfl⟩
  have hBSs : BS.size = n := by rw [← hBS]; show ((Fl.byteL N).reverse.map UInt8.ofNat).length = n; rw [List.length_map, List.length_reverse, hn]
  obtain ⟨hb1, hb2⟩ := Fl.byteL_byte 200 N h256
  obtain ⟨he1, he2⟩ := Fl.byteL_end n N hn
  have hbyte : ∀ i (hi : i < BS.size), (BS[i]'hi).toNat = N / 256 ^ (n - 1 - i) % 256 := fun i hi => by
    have h1 := byte_at hi rfl
    have h2 : BS.data.toList[i]? = ((Fl.byteL N).reverse.map UInt8.ofNat)[i]? := by rw [← hBS]
    have hin : i < n := by omega
    have h3 : ((Fl.byteL N).reverse.map UInt8.ofNat)[i]? = some (UInt8.ofNat (N / 256 ^ (n - 1 - i) % 256)) := by
      rw [List.getElem?_map, List.getElem?_reverse (by omega), hn, Fl.byteL_get _ _ (he2 _ (by omega))]
      rfl
    have h4 := (h1.symm.trans h2).trans h3
    rw [Option.some.inj h4, UInt8.toNat_ofNat']
    have : N / 256 ^ (n - 1 - i) % 256 < 256 := Nat.mod_lt _ (by omega)
    omega
  rw [hBS] at MG
  rw [hn] at hb1
  have n1 : (s.toList == [48]) = false := ba_list' h48
  have MG := Lib.hid MG
  have HP := Lib.hid hp
  have HL := Lib.hid hL
  have HB := Lib.hid (And.intro hbyte (And.intro he1 he2))
  clear hp hN h48 hBS hL hn hb2 he1 he2 hbyte h256
  go_enter Tryz.func38, Tryz.ntmps38
  go_wp2_with fail
  refine (VA.out _).mono ?_
  rintro x w1 ⟨rfl, hb1'⟩
  go_wp2_with fail
  refine (MG.out _).mono ?_
  rintro x w2 ⟨rfl, hb2'⟩
  have hbb := b_trans hb1' hb2'
  have w0 : IntKind.i64.wrap ((n : Int) - 1) = (n : Int) - 1 := IntWalk.i64_in _ (by omega)
  clear hb1' hb2'
  go_wp2_with fail
  go_loopg [7, 8, 9, 10] n (fun f t7 t8 t9 t10 wx => ∃ (k z m p r : Nat), t7 = .int .u64 (m : Int) ∧ t8 = .int .i64 (r : Int) ∧ t9 = .int .i64 (p : Int) ∧ t10 = .int .i64 ((f : Int) - 1) ∧ k + f = n ∧ p = 8 * (k - z) ∧ r = 8 * z ∧ Gath N k z m ∧ wx = w2)
  case atStart => exact ⟨0, 0, 0, 0, 0, rfl, rfl, rfl, rfl, by omega, rfl, rfl, Gath.start N, rfl⟩
  case round =>
    obtain ⟨k, z, m, p, r, rfl, rfl, rfl, rfl, hk, hpk, hrz, hG, hww⟩ := hrel
    subst hww
    cases gk with
    | zero =>
      have c1 : decide ((0 : Int) ≤ ((0 : Nat) : Int) - 1) = false := by decide
      have c1b : decide ((0 : Int) ≤ -1) = false := by decide
      obtain ⟨_, he1, _⟩ := HB.out
      obtain rfl : k = n := by omega
      obtain ⟨h1, h2, h3, h4, h5, h6⟩ := hG
      rw [he1, Nat.zero_mul, Nat.add_zero] at h4
      have hm0 : m ≠ 0 := fun h => by rw [h, Nat.zero_mul] at h4; omega
      have hm64 : m < 18446744073709551616 := Nat.lt_of_lt_of_le h3 (Nat.le_trans (Nat.pow_le_pow_right (by omega) h2) (by decide))
      obtain ⟨c', hc1, hc2⟩ := tz_spec (Nat.pos_of_ne_zero hm0) hm64
      obtain ⟨tz, htz⟩ : ∃ tz, tzN m = tz := ⟨_, rfl⟩
      rw [htz] at hc1 hc2
      obtain ⟨c, hc⟩ : ∃ c, 2 * c' + 1 = c := ⟨_, rfl⟩
      rw [hc] at hc1
      have hodd : c % 2 = 1 := by omega
      have hNc : N = c * 2 ^ (r + tz) := by rw [← h4, hc1, p256, ← hrz, Nat.pow_add, Nat.mul_comm (2 ^ tz) c, Nat.mul_assoc, Nat.mul_comm (2 ^ tz)]
      have hcm : c ≤ m := by rw [hc1]; exact Nat.le_mul_of_pos_left _ (Nat.two_pow_pos _)
      have hr16 : r ≤ 1600 := by omega
      have TZ := Lib.hid (fun W (hW : Laid W) => tz_any m hm64 W hW.2.2.2.2.1)
      rw [show Lib.ctz 64 m = tz from htz] at TZ
      have hdiv : m / 2 ^ tz = c := by rw [hc1]; exact Nat.mul_div_cancel_left _ (Nat.two_pow_pos _)
      have s1 : (m : Int) / 2 ^ tz = (c : Int) := by
        have h : (m : Int) / ((2 ^ tz : Nat) : Int) = ((m / 2 ^ tz : Nat) : Int) := rfl
        rw [hdiv] at h
        rw [← h]
        simp
      have htz0 : (0 : Int) ≤ (tz : Int) := by omega
      have htz64 : (tz : Int) < 64 := by omega
      have HLx := Lib.hid (HL.out.on hbb)
      have HNC := Lib.hid (And.intro hodd (And.intro hNc (And.intro hcm hm64)))
      have uniq : ∀ E : Int, E = e + ((r + tz : Nat) : Int) → (¬ Fl.Fits c E) → OfRes N g e (.returned (.tuple #[.string ⟨#[]⟩, .int .i64 2])) := fun E hE hn => .inr ⟨fun c1 t1 ho1 hN1 _ hf => by
        obtain ⟨u1, u2⟩ := odd_pow (hNc.symm.trans hN1) hodd ho1
        rw [← u1, ← u2, ← hE] at hf
        exact hn hf, rfl⟩
      have HU := Lib.hid uniq
      clear h1 h2 h3 h4 h5 h6 he1 hc1 htz hc hdiv uniq hrz hpk hodd hNc
      by_cases hbig : 2000 < e
      · have d1 : decide (2000 < e) = true := decide_eq_true hbig
        have HF := Lib.hid (HU.out _ rfl (fun hf => by have := hf.2.2.2.1; omega))
        clear hbig
        go_wp2_with fail
        refine (TZ.out _ HLx.out).mono ?_
        rintro x w3 ⟨rfl, rfl⟩
        go_wp2_with fail
        go_ret2
        exact ⟨HF.out, hbb⟩
      · have d1 : decide (2000 < e) = false := decide_eq_false hbig
        by_cases hlow : e < -4000
        · have d2 : decide (e < -4000) = true := decide_eq_true hlow
          have HF := Lib.hid (HU.out _ rfl (fun hf => by have := hf.2.2.1; omega))
          clear hbig hlow
          go_wp2_with fail
          refine (TZ.out _ HLx.out).mono ?_
          rintro x w3 ⟨rfl, rfl⟩
          go_wp2_with fail
          go_ret2
          exact ⟨HF.out, hbb⟩
        · have d2 : decide (e < -4000) = false := decide_eq_false hlow
          have g1 : IntKind.i64.wrap (e + (r : Int)) = e + (r : Int) := IntWalk.i64_in _ (by omega)
          have g2 : IntKind.i64.wrap (e + (r : Int) + (tz : Int)) = e + (r : Int) + (tz : Int) := IntWalk.i64_in _ (by omega)
          have g3 : IntKind.u64.wrap (c : Int) = (c : Int) := by rw [IntKind.wrap_u64]; omega
          obtain ⟨E, hE⟩ : ∃ E, e + (r : Int) + (tz : Int) = E := ⟨_, rfl⟩
          have HW := Lib.hid (show wrap64 E = E by unfold wrap64; omega)
          rw [hE] at g2
          have hE2 : E = e + ((r + tz : Nat) : Int) := by omega
          by_cases hfit : Fl.Fits c E
          · obtain ⟨f1, f2, f3, f4, R, r1, r2, r3⟩ := Fl.fits_word hfit (by omega)
            have FI := Lib.hid (fun W => fits_true c E W f1 f2 hfit.1 f3 hfit.2.2.1 hfit.2.2.2.1 f4)
            have LD := fun W => ldexp_any c E R W f1 f2 (by have := hfit.2.2.1; have := hfit.2.2.2.1; omega) r1 r2 r3
            have cv := cvt_nat c f1 f2
            have hneg : ∀ W, (Op.unary .neg (.float .f64 R)).run Tryz.prog W = .ok (.float .f64 (R + 9223372036854775808)) W := fun W => neg_word R (by omega) W
            obtain ⟨f0, hf0⟩ : ∃ f0, Fl.wordN c = f0 := ⟨_, rfl⟩
            rw [hf0] at LD cv
            have LD := Lib.hid LD
            have TXP := Lib.hid (fun W hW => text_any R (by omega) W hW)
            have TXN := Lib.hid (fun W hW => text_any (R + 9223372036854775808) (by omega) W hW)
            have HGO := Lib.hid (show ∀ x, x = Ending.returned (.tuple #[.string ⟨(Fl.txt (if g = true then R + 9223372036854775808 else R)).toArray⟩, .int .i64 0]) → OfRes N g e x from fun x hx => .inl ⟨c, r + tz, R, HNC.out.1, HNC.out.2.1, by omega, by rw [← hE2]; exact hfit, r1, r2, by rw [← hE2]; exact r3, hx⟩)
            have HE := Lib.hid hE
            have HS := HP.out.sgn
            obtain ⟨hs0, hsg⟩ := HS
            obtain ⟨d0, hd0⟩ : ∃ d : UInt8, s[0]'hs0 = d := ⟨_, rfl⟩
            rw [hd0] at hsg
            have hi00 : (0 : Int) < (s.size : Int) := by omega
            clear hfit hE hE2 hbig hlow f1 f2 f3 f4 r1 r2 r3 hf0
            go_wp2_with fail
            refine (TZ.out _ HLx.out).mono ?_
            rintro x w3 ⟨rfl, rfl⟩
            go_wp2_with fail
            rw [HE.out, HW.out]
            refine (FI.out _).mono ?_
            rintro x w4 ⟨rfl, rfl⟩
            go_wp2_with fail
            rw [HE.out, HW.out]
            refine (LD.out _).mono ?_
            rintro x w5 ⟨rfl, rfl⟩
            cases g with
            | true =>
              go_wp2_with fail
              refine (TXN.out _ HLx.out).mono ?_
              rintro x w6 ⟨rfl, hb6⟩
              go_wp2_with fail
              go_ret2
              exact ⟨HGO.out _ rfl, b_trans hbb hb6⟩
            | false =>
              go_wp2_with fail
              refine (TXP.out _ HLx.out).mono ?_
              rintro x w6 ⟨rfl, hb6⟩
              go_wp2_with fail
              go_ret2
              exact ⟨HGO.out _ rfl, b_trans hbb hb6⟩
          · have FF := Lib.hid (fun W => fits_false c E W (by omega) hfit)
            have HF := Lib.hid (HU.out E hE2 hfit)
            have HE := Lib.hid hE
            clear hfit hE hE2 hbig hlow
            go_wp2_with fail
            refine (TZ.out _ HLx.out).mono ?_
            rintro x w3 ⟨rfl, rfl⟩
            go_wp2_with fail
            rw [HE.out, HW.out]
            refine (FF.out _).mono ?_
            rintro x w4 ⟨rfl, rfl⟩
            go_wp2_with fail
            go_ret2
            exact ⟨HF.out, hbb⟩
    | succ i =>
      obtain ⟨hbyte, he1, he2⟩ := HB.out
      have hib : i < BS.size := by omega
      have e8 : (((i + 1 : Nat) : Int) - 1) = (i : Int) := by omega
      rw [e8]
      obtain ⟨d8, hd8⟩ : ∃ d : UInt8, BS[i]'hib = d := ⟨_, rfl⟩
      have hdn := hbyte i hib
      rw [hd8, show n - 1 - i = k by omega] at hdn
      have hD0 := he2 k (by omega)
      have hd256 : d8.toNat < 256 := by rw [hdn]; exact Nat.mod_lt _ (by omega)
      have c1 : decide ((0 : Int) ≤ (i : Int)) = true := decide_eq_true (by omega)
      have hi0 : (0 : Int) ≤ (i : Int) := by omega
      have hin : (i : Int) < (BS.size : Int) := by omega
      have g8 : IntKind.i64.wrap ((i : Int) - 1) = (i : Int) - 1 := IntWalk.i64_in _ (by omega)
      have hz8 : r ≤ 1600 := by have := hG.zk; omega
      have hp64' : p ≤ 64 := by have := hG.k8; omega
      have HPK := Lib.hid (And.intro hpk hrz)
      clear hbyte he1 he2 e8
      by_cases hsk : m = 0 ∧ d8.toNat = 0
      · obtain ⟨hm0, hd0⟩ := hsk
        subst hm0
        have hG2 := hG.skip rfl (by rw [← hdn]; exact hd0)
        have hzz : k = z := hG.zero rfl
        have d1 : ((d8.toNat : Int) == 0) = true := by rw [hd0]; rfl
        have q4 : IntKind.i64.wrap ((r : Int) + 8) = ((r + 8 : Nat) : Int) := by have := IntWalk.i64_in ((r : Int) + 8) (by omega); rw [this]; omega
        have HG2 := Lib.hid hG2
        clear hG hG2 hdn hd0 hpk hrz
        go_wp2_with fail
        go_roundg i
        case measure => omega
        case rel => exact ⟨k + 1, z + 1, 0, p, r + 8, rfl, rfl, rfl, rfl, by omega, by have := HPK.out; omega, by have := HPK.out; omega, HG2.out, rfl⟩
      · by_cases hp56 : 56 < p
        · have d1 : ((m : Int) == 0) = false := by rw [beq_eq_false_iff_ne]; intro h; have := hG.zero (by omega); omega
          have c3 : decide ((56 : Int) < (p : Int)) = true := decide_eq_true (by omega)
          have c3b : decide (56 < p) = true := decide_eq_true hp56
          have HG := Lib.hid (And.intro hG hD0)
          have HP56 := Lib.hid hp56
          clear hG hdn hD0 hp56 hpk hrz
          go_wp2_with fail
          go_ret2
          exact ⟨(HG.out.1.long (by have := HPK.out; have := HP56.out; omega) HG.out.2 e).flip, hbb⟩
        · have c3 : decide ((56 : Int) < (p : Int)) = false := decide_eq_false (by omega)
          have c3b : decide (56 < p) = false := decide_eq_false hp56
          have hG2 := hG.take (by omega) (fun h0 h1 => hsk ⟨h0, by rw [hdn]; exact h1⟩)
          have hmp := hG.lt
          rw [← hdn, p256, ← hpk] at hG2
          rw [p256, ← hpk] at hmp
          have hdp : d8.toNat * 2 ^ p < 18446744073709551616 := by
            have h1 : d8.toNat * 2 ^ p ≤ 255 * 2 ^ 56 := Nat.mul_le_mul (by omega) (Nat.pow_le_pow_right (by omega) (by omega))
            exact Nat.lt_of_le_of_lt h1 (by decide)
          have hm64 : m < 18446744073709551616 := Nat.lt_of_lt_of_le hmp (Nat.le_trans (Nat.pow_le_pow_right (by omega) (show p ≤ 64 by omega)) (by decide))
          by_cases hm0 : m = 0
          · have d1 : ((d8.toNat : Int) == 0) = false := by rw [beq_eq_false_iff_ne]; intro h; exact hsk ⟨hm0, by omega⟩
            clear hsk hD0
            subst hm0
            have q1 : IntKind.u64.wrap ((d8.toNat : Int) * 2 ^ p) = ((d8.toNat * 2 ^ p : Nat) : Int) := by
              have h : (d8.toNat : Int) * 2 ^ p = ((d8.toNat * 2 ^ p : Nat) : Int) := by simp
              rw [h, IntKind.wrap_u64]
              exact Int.emod_eq_of_lt (by omega) (by omega)
            have q2 := or_low 0 d8.toNat p hmp hdp (by omega)
            have q3 : IntKind.i64.wrap ((p : Int) + 8) = ((p + 8 : Nat) : Int) := by have := IntWalk.i64_in ((p : Int) + 8) (by omega); rw [this]; omega
            have q0 : IntKind.u64.wrap (d8.toNat : Int) = (d8.toNat : Int) := by rw [IntKind.wrap_u64]; omega
            have hp0 : (0 : Int) ≤ (p : Int) := by omega
            have hp64 : (p : Int) < 64 := by omega
            obtain ⟨M2, hM2⟩ : ∃ M2, 0 + d8.toNat * 2 ^ p = M2 := ⟨_, rfl⟩
            obtain ⟨DP, hDP⟩ : ∃ DP, d8.toNat * 2 ^ p = DP := ⟨_, rfl⟩
            rw [hM2] at q2 hG2
            rw [hDP] at q1 q2
            have q2b : bits .or .u64 0 (DP : Int) = (M2 : Int) := q2
            have HG2 := Lib.hid hG2
            have HZK := Lib.hid hG.zk
            clear hG hG2 hM2 hDP hmp hdp hdn hpk hrz hp56
            go_wp2_with fail
            go_roundg i
            case measure => omega
            case rel => exact ⟨k + 1, z, M2, p + 8, r, rfl, rfl, rfl, rfl, by omega, by have := HPK.out; have := HZK.out; omega, HPK.out.2, HG2.out, rfl⟩
          · have d0 : ((m : Int) == 0) = false := by rw [beq_eq_false_iff_ne]; intro h; exact hm0 (by omega)
            clear hsk hD0
            have q1 : IntKind.u64.wrap ((d8.toNat : Int) * 2 ^ p) = ((d8.toNat * 2 ^ p : Nat) : Int) := by
              have h : (d8.toNat : Int) * 2 ^ p = ((d8.toNat * 2 ^ p : Nat) : Int) := by simp
              rw [h, IntKind.wrap_u64]
              exact Int.emod_eq_of_lt (by omega) (by omega)
            have q2 := or_low m d8.toNat p hmp hdp (by omega)
            have q3 : IntKind.i64.wrap ((p : Int) + 8) = ((p + 8 : Nat) : Int) := by have := IntWalk.i64_in ((p : Int) + 8) (by omega); rw [this]; omega
            have q0 : IntKind.u64.wrap (d8.toNat : Int) = (d8.toNat : Int) := by rw [IntKind.wrap_u64]; omega
            have hp0 : (0 : Int) ≤ (p : Int) := by omega
            have hp64 : (p : Int) < 64 := by omega
            obtain ⟨M2, hM2⟩ : ∃ M2, m + d8.toNat * 2 ^ p = M2 := ⟨_, rfl⟩
            obtain ⟨DP, hDP⟩ : ∃ DP, d8.toNat * 2 ^ p = DP := ⟨_, rfl⟩
            rw [hM2] at q2 hG2
            rw [hDP] at q1 q2
            have HG2 := Lib.hid hG2
            have HZK := Lib.hid hG.zk
            clear hG hG2 hM2 hDP hmp hdp hdn hpk hrz hp56
            go_wp2_with fail
            go_roundg i
            case measure => omega
            case rel => exact ⟨k + 1, z, M2, p + 8, r, rfl, rfl, rfl, rfl, by omega, by have := HPK.out; have := HZK.out; omega, HPK.out.2, HG2.out, rfl⟩
end Go.Proofs.YtjapgpmoojfhnaaGreatDoor

namespace Go.Proofs.YtjapgpmoojfhnaaGreatDoor
open Go.RowKit Go.Lib

theorem readPre_zero : ReadPre ⟨#[48]⟩ ⟨#[48]⟩ false :=
  ⟨fun h => (by cases h), fun h => absurd h (by decide), fun h => (by cases h), fun _ => rfl, by decide, by decide,
    fun k h => by
      obtain rfl : k = 0 := by have : (⟨#[48]⟩ : ByteArray).size = 1 := rfl
                               omega
      exact ⟨by show 48 ≤ (48 : UInt8).toNat; decide, by show (48 : UInt8).toNat ≤ 57; decide⟩,
    fun _ _ => by decide⟩
set_option maxHeartbeats 1000000 in
set_option maxRecDepth 100000 in
theorem of38_zero (e : Int) (w : World) : Calls Tryz.prog 38 #[.string ⟨#[48]⟩, .int .i64 e] w fun x w' => x = .returned (.tuple #[.string ⟨#[48, 112, 48]⟩, .int .i64 0]) ∧ Below w.heap.size w w' := by
  have VA := Lib.hid (fun W => intvalid_good _ _ _ readPre_zero W)
  go_enter Tryz.func38, Tryz.ntmps38
  go_wp2_with fail
  refine (VA.out _).mono ?_
  rintro x w1 ⟨rfl, hb1⟩
  go_wp2_with fail
  go_ret2
  exact ⟨rfl, hb1⟩
end Go.Proofs.YtjapgpmoojfhnaaGreatDoor

namespace Go.Proofs.YtjapgpmoojfhnaaGreatDoor
open Go.RowKit Go.Lib

theorem ReadPre.size {s T : ByteArray} {g : Bool} (h : ReadPre s T g) : s.size = T.size + (if g = true then 1 else 0) := by
  cases g with
  | true =>
    have h1 := h.len rfl
    have h2 := h.cut rfl
    rw [← h2, ByteArray.size_extract]
    simp
    omega
  | false =>
    rw [h.whole rfl]
    rfl
theorem ReadPre.at_ {s T : ByteArray} {g : Bool} (h : ReadPre s T g) (j : Nat) (hj : j < T.size) : ∃ hi : s.size - 1 - j < s.size, (ldig T)[j]? = some ((s[s.size - 1 - j]'hi).toNat - 48) ∧ 48 ≤ (s[s.size - 1 - j]'hi).toNat ∧ (s[s.size - 1 - j]'hi).toNat ≤ 57 := by
  have hs := h.size
  have hi : s.size - 1 - j < s.size := by omega
  have ht : T.size - 1 - j < T.size := by omega
  have key : s[s.size - 1 - j]'hi = T[T.size - 1 - j]'ht := by
    have h1 := byte_at hi rfl
    have h2 := byte_at ht rfl
    cases g with
    | false =>
      obtain rfl := h.whole rfl
      rfl
    | true =>
      have h3 : T.data.toList = s.data.toList.drop 1 := by
        rw [← h.cut rfl]
        simp
        rw [List.take_of_length_le (by rw [List.length_tail, Array.length_toList]; exact Nat.le_refl _)]
      rw [h3, List.getElem?_drop, show 1 + (T.size - 1 - j) = s.size - 1 - j by rw [hs]; simp; omega] at h2
      exact Option.some.inj (h1.symm.trans h2)
  refine ⟨hi, ?_, ?_, ?_⟩
  · have hz : T.data.toList.length = T.size := (ba_size T).symm
    rw [ldig, List.getElem?_reverse (by rw [List.length_map, hz]; exact hj), List.length_map, hz, List.getElem?_map, byte_at ht rfl, key]
    rfl
  · rw [key]; exact (h.digs _ ht).1
  · rw [key]; exact (h.digs _ ht).2
theorem ReadPre.minus {s T : ByteArray} (h : ReadPre s T true) (h0 : 0 < s.size) : (s[0]'h0).toNat = 45 := by
  have := h.head (h.len rfl)
  have := eq_of_beq this
  omega
set_option maxHeartbeats 1000000 in
set_option maxRecDepth 100000 in
theorem trim85_any (A : Option Addr) (n c : Nat) (l : List Nat) (w : World) (hr : Reads w w.heap.size A n (u8s l)) (hc : n ≤ c) (hn : n ≤ 1073741824) : Calls Tryz.prog 85 #[.slice A n c] w fun x w' => (∃ m, Trimmed l n m ∧ x = .returned (.slice A m c)) ∧ w' = w := by
  go_enter Tryz.func85, Tryz.ntmps85
  go_wp2_with fail
  go_loopg [3] n (fun f i wx => ∃ m : Nat, i = .int .i64 (m : Int) ∧ m ≤ n ∧ m ≤ f ∧ wx = w ∧ ∀ j, m ≤ j → j < n → l[j]? = some 0)
  case atStart => exact ⟨n, rfl, by omega, by omega, rfl, fun j h1 h2 => by omega⟩
  case round =>
    obtain ⟨m, rfl, hm, hf, hww, hz⟩ := hrel
    subst hww
    have hmc : m ≤ c := by omega
    have hmci : (m : Int) ≤ (c : Int) := by omega
    by_cases h0 : m = 0
    · subst h0
      have HZ := Lib.hid hz
      clear hz
      cases A with
      | none =>
        go_wp2_with fail
        go_ret
        exact ⟨⟨0, ⟨by omega, .inl rfl, HZ.out⟩, rfl⟩, rfl⟩
      | some a =>
        go_wp2_with fail
        go_ret
        exact ⟨⟨0, ⟨by omega, .inl rfl, HZ.out⟩, rfl⟩, rfl⟩
    · obtain ⟨q, rfl⟩ : ∃ q, m = q + 1 := ⟨m - 1, by omega⟩
      obtain ⟨b, off, u, rfl, hbB, hu, hcell⟩ := hr.at_ (k := q) (by omega)
      obtain ⟨x, hx, rfl⟩ := u8_at hu
      have hin : (0 : Int) < ((q + 1 : Nat) : Int) := by omega
      have h2 : IntKind.i64.wrap (((q + 1 : Nat) : Int) - 1) = (q : Int) := by have := IntWalk.i64_in (((q + 1 : Nat) : Int) - 1) (by omega); rw [this]; omega
      have h4 : (0 : Int) ≤ (q : Int) := by omega
      have h5 : (q : Int) < (n : Int) := by omega
      by_cases hx0 : x = 0
      · have hx0f : ((x : Int) == 0) = true := by subst hx0; rfl
        obtain ⟨f, rfl⟩ : ∃ f, gk = f + 1 := ⟨gk - 1, by omega⟩
        have HX := Lib.hid (show ∀ j, q ≤ j → j < n → l[j]? = some 0 from fun j h1 h2 => by
          by_cases hj : j = q
          · rw [hj, hx, hx0]
          · exact hz j (by omega) h2)
        clear hx hu hz hx0
        go_wp2_with fail
        go_roundg f
        case measure => omega
        case rel => exact ⟨q, by go_num, by omega, by omega, rfl, HX.out⟩
      · have hx0f : ((x : Int) == 0) = false := by simp; omega
        have HX := Lib.hid (show Trimmed l n (q + 1) from ⟨hm, .inr ⟨x, hx, hx0⟩, hz⟩)
        clear hx0 hx hu hz
        go_wp2_with fail
        go_ret
        exact ⟨⟨q + 1, HX.out, rfl⟩, rfl⟩
set_option maxHeartbeats 4000000 in
set_option maxRecDepth 100000 in
theorem ref03of_any (s T : ByteArray) (g : Bool) (hp : ReadPre s T g) (w : World) : Calls Tryz.prog 40 #[.string s] w fun x w' => (∃ A m c, Trimmed (ldig T) T.size m ∧ m ≤ c ∧ Reads w' w'.heap.size A m (u8s ((ldig T).take m)) ∧ x = .returned (.agg #[.bool g, .slice A m c])) ∧ Below w.heap.size w w' := by
  obtain ⟨i0, hi, hz0, hz1, hz2⟩ := info_parts info5
  have HP := Lib.hid hp
  have hss := hp.size
  have hTl := hp.le
  have hTp := hp.pos
  obtain ⟨X, hX⟩ : ∃ X, w.heap.size = X := ⟨_, rfl⟩
  obtain ⟨w1, hw1⟩ : ∃ w1 : World, (w.alloc (.cells #[.bool false, .slice none 0 0] 33)).alloc (.cells #[.bool false, .slice none 0 0] 33) = w1 := ⟨_, rfl⟩
  have hb1 : Below X w w1 := by rw [← hw1, ← hX]; exact ((Below.refl _ _).alloc (Nat.le_refl _) _).alloc (by simp) _
  have hX1 : w1.heap[X]? = some (.cells #[.bool false, .slice none 0 0] 33 (0, 0)) := by
    rw [← hw1, ← hX]; exact (Below.heap_alloc _ _ _ (by simp)).trans (heap_alloc_new w _)
  have hY1 : w1.heap[X + 1]? = some (.cells #[.bool false, .slice none 0 0] 33 (0, 0)) := by
    rw [← hw1, ← hX]
    have := heap_alloc_new (w.alloc (.cells #[.bool false, .slice none 0 0] 33)) (.cells #[.bool false, .slice none 0 0] 33)
    simpa using this
  have hsz1 : w1.heap.size = X + 2 := by rw [← hw1, ← hX]; simp
  have HX := Lib.hid hX
  have HW1 := Lib.hid hw1
  have w0 : IntKind.i64.wrap ((s.size : Int) - 1) = (s.size : Int) - 1 := IntWalk.i64_in _ (by split at hss <;> omega)
  have hs1 : 1 ≤ s.size := by split at hss <;> omega
  have hs2 : s.size ≤ 401 := by split at hss <;> omega
  have HSS := Lib.hid hss
  clear hw1 hp hss
  go_enter Tryz.func40, Tryz.ntmps40
  go_upto_block 0 with fail
  rw [HW1.out]
  go_wp2_with fail
  go_loopg [4] s.size (fun f t4 wx => ∃ (j : Nat) (v : Value) (ng : Bool), t4 = .int .i64 ((f : Int) - 1) ∧ f ≤ s.size ∧ ((ng = false ∧ j + f = s.size ∧ j ≤ T.size) ∨ (ng = true ∧ g = true ∧ j = T.size ∧ f = 0)) ∧ wx.heap[X]? = some (.cells #[.bool false, .slice none 0 0] 33 (0, 0)) ∧ wx.heap[X + 1]? = some (.cells #[.bool ng, v] 33 (0, 0)) ∧ wx.ownsRow (X + 2) 5 1 v j (u8s ((ldig T).take j)) ∧ X + 2 ≤ wx.heap.size ∧ Below X w wx)
  case atStart => exact ⟨0, .slice none 0 0, false, rfl, Nat.le_refl _, .inl ⟨rfl, by omega, by omega⟩, hX1, hY1, World.ownsRow_nil _ _ _ _, by omega, hb1⟩
  case round =>
    obtain ⟨j, v, ng, rfl, hfs, hcase, hXx, hYx, hown, hsx, hbx⟩ := hrel
    have HXx := Lib.hid hXx
    have HYx := Lib.hid hYx
    have y0 := at_block hYx 0 _ rfl
    have y1 := at_block hYx 1 _ rfl
    have fy0 := free_block hYx 0
    have fy1 := free_block hYx 1
    have HSZ := HSS.out
    cases gk with
    | zero =>
      have hfin : ng = g ∧ j = T.size := by
        rcases hcase with ⟨h1, h2, h3⟩ | ⟨h1, h2, h3, _⟩
        · refine ⟨?_, ?_⟩
          · cases g with
            | false => exact h1
            | true => simp at HSZ; omega
          · split at HSZ <;> omega
        · exact ⟨by rw [h1, h2], h3⟩
      obtain ⟨rfl, rfl⟩ := hfin
      have c1 : decide ((0 : Int) ≤ ((0 : Nat) : Int) - 1) = false := by decide
      have c1b : decide ((0 : Int) ≤ -1) = false := by decide
      obtain ⟨A, cp, hv, hcp, hrd⟩ := own_slice hown
      have hld : (ldig T).length = T.size := by rw [ldig, List.length_reverse, List.length_map, ba_size]
      rw [List.take_of_length_le (Nat.le_of_eq hld)] at hrd hown
      subst hv
      have TR := Lib.hid (trim85_any A T.size cp (ldig T) wr hrd hcp (by omega))
      have HRD := Lib.hid (And.intro hrd hown)
      have x0 := at_block hXx 0 _ rfl
      have x1 := at_block hXx 1 _ rfl
      have fx0 := free_block hXx 0
      have fx1 := free_block hXx 1
      clear hXx hYx hrd hown hcase HSZ hld
      go_wp2_with fail
      refine (TR.out).mono ?_
      rintro x w7 ⟨⟨m, hm, rfl⟩, rfl⟩
      have HM := Lib.hid hm
      have hmle := hm.1
      clear hm
      go_wp2_with fail
      refine bodyPost_ret (v := .agg #[.bool ng, .slice A m cp]) (by simp [results, Tryz.results40, go_sem, x0, x1]) rfl ?_
      refine ⟨⟨A, m, cp, HM.out, by omega, ?_, rfl⟩, ?_⟩
      · have h1 := own_heap (w' := ((w7.setCell ⟨X + 1, 1, none⟩ (.slice A m cp)).setCell ⟨X, 0, none⟩ (.bool ng)).setCell ⟨X, 1, none⟩ (.slice A m cp)) HRD.out.2 (fun k hk1 _ => by
          rw [Below.heap_setCell _ _ _ _ (show k ≠ X by omega), Below.heap_setCell _ _ _ _ (show k ≠ X by omega), Below.heap_setCell _ _ _ _ (show k ≠ X + 1 by omega)])
        have h3 := (Reads.of_own h1).take m HM.out.1
        have e : (u8s (ldig T)).take m = u8s ((ldig T).take m) := by simp [u8s, List.map_take]
        rw [e] at h3
        exact h3
      · try rw [HX.out]
        exact ((hbx.setCell (p := ⟨X + 1, 1, none⟩) (by show X ≤ X + 1; omega) _).setCell (p := ⟨X, 0, none⟩) (Nat.le_refl _) _).setCell (p := ⟨X, 1, none⟩) (Nat.le_refl _) _
    | succ f =>
      have e8 : (((f + 1 : Nat) : Int) - 1) = (f : Int) := by omega
      rw [e8]
      rcases hcase with ⟨rfl, hjf, hjT⟩ | ⟨_, _, _, h0⟩
      · have c1 : decide ((0 : Int) ≤ (f : Int)) = true := decide_eq_true (by omega)
        have hf0 : (0 : Int) ≤ (f : Int) := by omega
        have hfi : (f : Int) < (s.size : Int) := by omega
        have hfn : f < s.size := by omega
        have g8 : IntKind.i64.wrap ((f : Int) - 1) = (f : Int) - 1 := IntWalk.i64_in _ (by omega)
        obtain ⟨d8, hd8⟩ : ∃ d : UInt8, s[f]'hfn = d := ⟨_, rfl⟩
        by_cases hjl : j < T.size
        · obtain ⟨hi2, a1, a2, a3⟩ := HP.out.at_ j hjl
          have hidx : s.size - 1 - j = f := by omega
          have hsf : s[s.size - 1 - j]'hi2 = d8 := by
            rw [← hd8]
            congr 1
          rw [hsf] at a1 a2 a3
          have d1 : ((d8.toNat : Int) == 45) = false := by rw [beq_eq_false_iff_ne]; omega
          have g6 : IntKind.u8.wrap ((d8.toNat : Int) - 48) = ((d8.toNat - 48 : Nat) : Int) := by rw [IntKind.wrap_u8]; omega
          obtain ⟨x, hx⟩ : ∃ x, d8.toNat - 48 = x := ⟨_, rfl⟩
          rw [hx] at a1 g6
          have HA1 := Lib.hid a1
          obtain ⟨V, hV⟩ : ∃ V, u8s ((ldig T).take j) = V := ⟨_, rfl⟩
          rw [hV] at hown
          have HV := Lib.hid hV
          have hsx2 := hsx
          clear hXx hYx HSZ a1 a2 a3 hx hV hsf hi2 hidx
          go_wp2_with fail
          have ya : ∀ o, (wr.alloc o).cell? ⟨X + 1, 1, none⟩ = some v := fun o => (World.cell?_alloc_lt wr o ⟨X + 1, 1, none⟩ (by show X + 1 < _; omega)).trans y1
          go_region_law
            ((refine step_append_any _ (by rfl) _ _ _ (by rfl) (X + 2) 5 i0 _ 1 Tryz.underlying31 hi hz0 hz1 hz2 rfl v j V (by rfl) ((hown.alloc _).drew)
                _ (some ⟨wr.heap.size, 0, none⟩) 1 1 [.int .u8 (x : Int)] (by rfl) (Reads.of_block (cs := [.int .u8 (x : Int)]) (t := 5) (fr := (0, 0)) (heap_alloc_new wr _)) (by simp [Value.oneCell'])
                (by unfold maxLen; omega) (by omega) (by simp; omega) ?_; intro v' w3 hown3 hgr3; obtain ⟨A', c', rfl⟩ := own_form hown3; have hb3' : Below (X + 2) wr w3 := (((Below.refl _ _).alloc hsx2 _).drew).grown hgr3 (by simp; omega) (fun k hk => (hown.lt k hk).1); have hY3 := (hb3'.block (X + 1) (by omega)).trans HYx.out; have z1 := at_block hY3 1 _ rfl; have g1 := free_block hY3 1; have HY3 := Lib.hid hY3; clear hY3))
          all_goals
            go_wp2_with fail
            go_roundg f
            case measure => omega
            case rel =>
              refine ⟨j + 1, .slice A' (j + 1) c', false, rfl, by omega, .inl ⟨rfl, by omega, by omega⟩, ?_, ?_, ?_, ?_, ?_⟩
              · rw [Below.heap_setCell _ _ _ _ (by show X ≠ X + 1; omega)]
                exact (hb3'.block X (by omega)).trans HXx.out
              · exact block_set HY3.out 1 _
              · have e : u8s ((ldig T).take (j + 1)) = V ++ [.int .u8 (x : Int)] := by
                  rw [List.take_add_one, HA1.out, ← HV.out]
                  simp [u8s]
                rw [e]
                exact own_heap hown3 (fun k hk1 _ => Below.heap_setCell _ _ _ _ (show k ≠ X + 1 by omega))
              · show _ ≤ (World.setCell _ _ _).heap.size
                simp [World.setCell]; exact Nat.le_trans hsx2 hb3'.size
              · exact (hbx.trans (hb3'.mono (by omega))).setCell (p := ⟨X + 1, 1, none⟩) (by show X ≤ X + 1; omega) _
        · have hg : g = true := by
            cases g with
            | true => rfl
            | false => simp at HSZ; omega
          subst hg
          simp at HSZ
          obtain rfl : f = 0 := by omega
          have h45 := HP.out.minus hfn
          rw [hd8] at h45
          have d1 : ((d8.toNat : Int) == 45) = true := by rw [h45]; rfl
          obtain rfl : j = T.size := by omega
          have HOW := Lib.hid hown
          obtain ⟨A, cp, rfl⟩ := own_form hown
          clear hXx hYx hown h45 HSZ hjf
          go_wp2_with fail
          go_roundg 0
          case measure => omega
          case rel =>
            refine ⟨T.size, .slice A T.size cp, true, rfl, by omega, .inr ⟨rfl, by simp, rfl, rfl⟩, ?_, ?_, ?_, ?_, ?_⟩
            · rw [Below.heap_setCell _ _ _ _ (show X ≠ X + 1 by omega)]; exact HXx.out
            · exact block_set HYx.out 0 _
            · exact own_heap HOW.out (fun k hk1 _ => by rw [Below.heap_setCell _ _ _ _ (show k ≠ X + 1 by omega)])
            · simp [World.setCell]; omega
            · exact hbx.setCell (p := ⟨X + 1, 0, none⟩) (by show X ≤ X + 1; omega) _
      · omega
end Go.Proofs.YtjapgpmoojfhnaaGreatDoor
