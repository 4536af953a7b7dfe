/- The library's reading of a number of at most 64 bits times a power of ten: parseFloat64. special: a text that begins with a digit, or with a sign and a digit, is none of the special ones. readFloat: what one round of its first loop looks at, said apart from the walk. -/
import Derived.Test.YtjapgpmoojfhnaaGreatDoorB04
import Derived.Test.YtjapgpmoojfhnaaGreatDoorB17
import Derived.Test.YtjapgpmoojfhnaaGreatDoorB19
import Derived.Test.YtjapgpmoojfhnaaGreatDoorB23
set_option maxHeartbeats 16000000
set_option maxRecDepth 100000
set_option linter.unusedSimpArgs false
set_option linter.unusedVariables false
namespace Go.Proofs.YtjapgpmoojfhnaaGreatDoor
open Go.RowKit Go.Lib
def TenTab (w : World) : Prop := ∀ i h l : Nat, Go.Pinned.pow10Rows[i]? = some (h, l) → w.cell? ⟨14, i * 2, none⟩ = some (.int .u64 (h : Int)) ∧ w.cell? ⟨14, i * 2 + 1, none⟩ = some (.int .u64 (l : Int))
theorem TenTab.on {w w' : World} (h : TenTab w) (hs : 18 ≤ w.heap.size) (hb : Below w.heap.size w w') : TenTab w' := fun i a b e =>
 ⟨(hb.cell (by show 14 < _; omega)).trans (h i a b e).1, (hb.cell (by show 14 < _; omega)).trans (h i a b e).2⟩
theorem b_trans' {B : Nat} {a W W' : World} (h : Below B a W) (hb : Below W.heap.size W W') (hB : B ≤ W.heap.size) : Below B a W' := h.trans (hb.mono hB)
theorem scaler_new (e p l s : Int) (k h0 l0 : Nat) (hk : p = (k : Int) - 348) (hk2 : k < 696) (he : -100000 ≤ e ∧ e ≤ 100000) (hl : -100000 ≤ l ∧ l ≤ 100000) (hs : s = -(e + l + 3)) (w : World) (hw : 18 ≤ w.heap.size)
 (t0 : w.cell? ⟨14, k * 2, none⟩ = some (.int .u64 (h0 : Int))) (t1 : w.cell? ⟨14, k * 2 + 1, none⟩ = some (.int .u64 (l0 : Int))) :
 Calls Tryz.prog 209 #[.pointer (some ⟨w.heap.size, 0, none⟩), .int .i64 e, .int .i64 p, .int .i64 l] (w.alloc (.cells #[.int .u64 0, .int .u64 0, .int .i64 0] 247)) fun x w' => x = .returned (.tuple #[]) ∧ Below w.heap.size w w' ∧
  w'.cell? ⟨w.heap.size, 0, none⟩ = some (.int .u64 (h0 : Int)) ∧ w'.cell? ⟨w.heap.size, 1, none⟩ = some (.int .u64 (l0 : Int)) ∧ w'.cell? ⟨w.heap.size, 2, none⟩ = some (.int .i64 s) := by
 have hX := heap_alloc_new w (.cells #[.int .u64 0, .int .u64 0, .int .i64 0] 247)
 have hb : Below w.heap.size w (w.alloc (.cells #[.int .u64 0, .int .u64 0, .int .i64 0] 247)) := (Below.refl _ _).alloc (Nat.le_refl _) _
 obtain ⟨w1, hw1⟩ : ∃ w1, w.alloc (.cells #[.int .u64 0, .int .u64 0, .int .i64 0] 247) = w1 := ⟨_, rfl⟩
 obtain ⟨X, hXX⟩ : ∃ X, w.heap.size = X := ⟨_, rfl⟩
 rw [hw1] at hX hb ⊢
 rw [hXX] at hX hb hw ⊢
 refine (prescale_any e p l k X h0 l0 hk hk2 he hl (by omega) w1 ((hb.cell (by show 14 < _; omega)).trans t0) ((hb.cell (by show 14 < _; omega)).trans t1) _ _ _ (at_block hX 0 _ rfl) (at_block hX 1 _ rfl) (at_block hX 2 _ rfl) (free_block hX 0) (free_block hX 1) (free_block hX 2)).mono ?_
 rintro x w' ⟨rfl, rfl⟩
 have q := block_set (block_set (block_set hX 0 (.int .u64 (h0 : Int))) 1 (.int .u64 (l0 : Int))) 2 (.int .i64 (-(e + l + 3)))
 subst hs
 exact ⟨rfl, ((hb.setCell (p := ⟨X, 0, none⟩) (Nat.le_refl _) _).setCell (p := ⟨X, 1, none⟩) (Nat.le_refl _) _).setCell (p := ⟨X, 2, none⟩) (Nat.le_refl _) _, at_block q 0 _ rfl, at_block q 1 _ rfl, at_block q 2 _ rfl⟩
theorem pf64_any (d : Nat) (p : Int) (S : Nat) (hS : S < 2) (hd0 : 0 < d) (hd : d < 18446744073709551616) (h0 : -345 ≤ p) (h1 : p ≤ 310) (w : World) (hT : TenTab w) (hw : 18 ≤ w.heap.size) :
 Calls Tryz.prog 200 #[.int .u64 (d : Int), .int .i64 p, .int .u64 ((S * 9223372036854775808 : Nat) : Int)] w fun x w' => (∃ r v, Fl.Near (Fl.vN d p) (Fl.vD p) r ∧ ErrV r v ∧ x = .returned (.tuple #[.float .f64 (S * 9223372036854775808 + r), v])) ∧ Below w.heap.size w w' := by
 obtain ⟨h, l, hrow, R⟩ := Fl.row_ok h0 h1
 have near := Fl.pf64_near hd0 hd h0 h1 R
 have hmb := Fl.pf64_m hd0 hd h0 h1 R
 obtain ⟨lb0, lb1⟩ := Fl.lp_bounds h0 h1
 obtain ⟨b0, b1, x0, x1, _⟩ := Fl.bitl_bounds hd0 hd
 obtain ⟨k, hk⟩ : ∃ k : Nat, p = (k : Int) - 348 := ⟨(p + 348).toNat, by omega⟩
 have hkn : (p + 348).toNat = k := by omega
 rw [hkn] at hrow
 obtain ⟨t0, t1⟩ := hT k h l hrow
 have LN : ∀ W, Calls Tryz.prog 67 #[.int .u64 (d : Int)] W fun e w' => e = .returned (.int .i64 (Fl.bitl d : Nat)) ∧ w' = W := fun W => by
  have := Tryz.bits_Len64 (d : Int) W (by omega) (by omega)
  rw [Int.toNat_natCast, Fl.bitLen_log2 d (by omega) hd] at this
  exact this
 have LP := fun W => log2pow_any p (by omega) (by omega) W
 obtain ⟨b, hb⟩ : ∃ b, Fl.bitl d = b := ⟨_, rfl⟩
 obtain ⟨L, hL⟩ : ∃ L, Fl.lp p = L := ⟨_, rfl⟩
 obtain ⟨e, he⟩ : ∃ e, Fl.pfe d p = e := ⟨_, rfl⟩
 obtain ⟨s, hs⟩ : ∃ s, Fl.pfs d p = s := ⟨_, rfl⟩
 unfold Fl.pf64 at near
 rw [hs, he, hb] at near
 rw [hs, hb] at hmb
 have he' := he
 unfold Fl.pfe at he'
 unfold Fl.pfs at hs
 rw [hb, hL, he] at hs
 rw [hb, hL] at he'
 clear he
 rw [hb] at LN b0 b1 x0 x1
 rw [hL] at LP lb0 lb1
 clear hL hb
 obtain ⟨c, hc⟩ : ∃ c : Nat, 64 - b = c := ⟨_, rfl⟩
 rw [hc] at x0 x1 near hmb
 have g1 : IntKind.i64.wrap (53 - (b : Int)) = 53 - (b : Int) := by rw [IntKind.wrap_i64]; omega
 have g1' : wrap64 (53 - (b : Int)) = 53 - (b : Int) := by unfold wrap64; omega
 have g2 : IntKind.i64.wrap (53 - (b : Int) - L) = 53 - (b : Int) - L := by rw [IntKind.wrap_i64]; omega
 have g2' : wrap64 (53 - (b : Int) - L) = 53 - (b : Int) - L := by unfold wrap64; omega
 have g3 : IntKind.i64.wrap (64 - (b : Int)) = (c : Int) := by rw [IntKind.wrap_i64]; omega
 have g3' : wrap64 (64 - (b : Int)) = (c : Int) := by unfold wrap64; omega
 have g4 : IntKind.i64.wrap (e - (c : Int)) = e - (c : Int) := by rw [IntKind.wrap_i64]; omega
 have g4' : wrap64 (e - (c : Int)) = e - (c : Int) := by unfold wrap64; omega
 have SN := scaler_new (e - (c : Int)) p L s k h l hk (by omega) (by omega) (by omega) (by omega) w hw t0 t1
 obtain ⟨X, hX⟩ : ∃ X, w.heap.size = X := ⟨_, rfl⟩
 obtain ⟨w1, hw1⟩ : ∃ w1, w.alloc (.cells #[.int .u64 0, .int .u64 0, .int .i64 0] 247) = w1 := ⟨_, rfl⟩
 rw [hX, hw1] at SN
 obtain ⟨T, hTS⟩ : ∃ T, S * 9223372036854775808 = T := ⟨_, rfl⟩
 rw [hTS]
 have hsb : s < 100000 ∧ -100000 < s := by omega
 have heb : e ≤ 1074 ∧ -1100 ≤ e := by omega
 have hs8 : 8 ≤ s := by omega
 have hTl : T < 9223372036854775809 := by omega
 have hc64 : c ≤ 63 := by omega
 have LN := Lib.hid LN
 have LP := Lib.hid LP
 have SN := Lib.hid SN
 have HW1 := Lib.hid hw1
 have HX := Lib.hid hX
 have HTS := Lib.hid hTS
 clear hs hk hkn hw1 hX hTS t0 t1 hrow hT hc
 by_cases h64 : 64 ≤ s
 · rw [if_pos h64] at near
   have k1 : decide (64 ≤ s) = true := decide_eq_true h64
   have RF := run_frombits2 T
   have g5 : bits .or .u64 (T : Int) 0 = (T : Int) := by
    have := u64_or_nat T 0 (by omega) (by decide)
    rwa [Nat.or_zero] at this
   have near := Lib.hid near
   clear h64 hd0 hd h0 h1 b0 b1 x0 x1 lb0 lb1 hsb hmb heb hs8 hTl hc64
   go_enter Tryz.func200, Tryz.ntmps200
   go_wp2_with fail
   refine (LN.out _).mono ?_
   rintro x w2 ⟨rfl, rfl⟩
   go_wp2_with fail
   refine (LP.out _).mono ?_
   rintro x w2 ⟨rfl, rfl⟩
   go_upto_region 5 with fail
   rw [HW1.out, HX.out]
   go_wp2_with fail
   refine (SN.out).mono ?_
   rintro x w3 ⟨rfl, hb3, c0, c1, c2⟩
   have HB3 := Lib.hid hb3
   clear hb3
   go_wp2_with fail
   go_ret2
   rw [HX.out]
   exact ⟨⟨0, .nilIface, near.out, .inl rfl, rfl⟩, HB3.out⟩
 · rw [if_neg h64] at near
   have hm := hmb h64
   have k1 : decide (64 ≤ s) = false := decide_eq_false h64
   obtain ⟨sn, rfl⟩ : ∃ n : Nat, s = n := ⟨s.toNat, by omega⟩
   rw [Int.toNat_natCast] at near hm
   obtain ⟨x, hx⟩ : ∃ x, d * 2 ^ c = x := ⟨_, rfl⟩
   rw [hx] at near hm x0 x1
   have US := fun W cc0 cc1 cc2 => uscale_any x h l sn X x1 R.h64 R.l64 (by
    have : 9223372036854775808 * 9223372036854775808 ≤ x * h := Nat.mul_le_mul x0 R.h63
    omega) (by omega) W cc0 cc1 cc2
   have hul := Fl.usc_lt (x := x) (h := h) (l := l) (s := sn) x1 R.h64 (by omega)
   obtain ⟨u, hu⟩ : ∃ u, Fl.usc x h l sn = u := ⟨_, rfl⟩
   simp only [hu] at near hm US hul
   have g5 : IntKind.u64.wrap ((d : Int) * 2 ^ c) = (x : Int) := by
    have : (d : Int) * 2 ^ c = ((d * 2 ^ c : Nat) : Int) := by push_cast; rfl
    rw [this, hx, IntKind.wrap_u64]
    omega
   have hmin : min c 64 = c := by omega
   have g6 : bits .and .u64 (u : Int) 1 = ((u % 2 : Nat) : Int) := by
    have h1 := u64_and_nat u 1 (by omega) (by decide)
    rw [Nat.and_one_is_mod] at h1
    exact h1
   have US := Lib.hid US
   have hor : ∀ m : Nat, m < 9007199254740992 → bits .or .u64 (T : Int) (m : Int) = ((T + m : Nat) : Int) := fun m hm => by
    have h1 := u64_or_nat T m (by omega) (by omega)
    have h2 : 2 ^ 63 * S + m = 2 ^ 63 * S ||| m := Nat.two_pow_add_eq_or_of_lt (Nat.lt_of_lt_of_le hm (by decide)) S
    have h3 : 2 ^ 63 * S = T := by rw [← HTS.out, Nat.mul_comm]
    rw [h3] at h2
    rw [← h2] at h1
    exact h1
   have hpk : ∀ (m : Nat) (E : Int), m < 9007199254740992 → -1074 ≤ E ∧ E ≤ 2000 → ∀ W, Calls Tryz.prog 216 #[.int .u64 ((T + m : Nat) : Int), .int .i64 E] W fun x w' => (∃ v, ErrV (Fl.pack m E) v ∧ x = .returned (.tuple #[.float .f64 (T + Fl.pack m E), v])) ∧ w' = W := fun m E h1 h2 W => by
    have := pack_any S m E hS h1 h2 W
    rwa [HTS.out] at this
   by_cases hbig : 36028797018963966 ≤ u
   · rw [if_pos hbig] at near
     have k2 : decide ((36028797018963966 : Int) ≤ (u : Int)) = true := decide_eq_true (by omega)
     have k2' : decide (36028797018963966 ≤ u) = true := decide_eq_true hbig
     have g7 : (u : Int) / 2 = ((u / 2 : Nat) : Int) := by omega
     have g8 : bits .or .u64 ((u / 2 : Nat) : Int) ((u % 2 : Nat) : Int) = ((u / 2 ||| u % 2 : Nat) : Int) := u64_or_nat (u / 2) (u % 2) (by omega) (by omega)
     have hvl : (u / 2 ||| u % 2) < 144115188075855872 := Nat.or_lt_two_pow (n := 57) (by show _ < 144115188075855872; omega) (by show _ < 144115188075855872; omega)
     obtain ⟨v0, hv0⟩ : ∃ v, (u / 2 ||| u % 2) = v := ⟨_, rfl⟩
     rw [hv0] at g8 hvl near hm
     have RD := Lib.hid (fun W => round4_any v0 (by omega) W)
     obtain ⟨m, hmm⟩ : ∃ m, Fl.rnd4 v0 = m := ⟨_, rfl⟩
     rw [hmm] at RD near hm
     have g9 := hor m hm
     have g10 : IntKind.i64.wrap (e - 1) = e - 1 := by rw [IntKind.wrap_i64]; omega
     have g10' : wrap64 (e - 1) = e - 1 := by unfold wrap64; omega
     have g11 : IntKind.i64.wrap (-(e - 1)) = 1 - e := by rw [IntKind.wrap_i64]; omega
     have g11' : wrap64 (-(e - 1)) = 1 - e := by unfold wrap64; omega
     have PK := Lib.hid (hpk m (1 - e) hm (by omega))
     obtain ⟨u1, hu1⟩ : ∃ m, u / 2 = m := ⟨_, rfl⟩
     obtain ⟨u2, hu2⟩ : ∃ m, u % 2 = m := ⟨_, rfl⟩
     obtain ⟨tm, htm⟩ : ∃ t, T + m = t := ⟨_, rfl⟩
     rw [hu1] at g7 g8
     rw [hu2] at g6 g8
     rw [htm] at PK g9
     have near := Lib.hid near
     clear hbig hv0 hmm hu1 hu2 htm hvl hm hor hpk hu hx hul h64 hmb x0 x1 hd0 hd h0 h1 b0 b1 lb0 lb1 hsb heb hs8 hTl R hS hw hc64
     go_enter Tryz.func200, Tryz.ntmps200
     go_wp2_with fail
     refine (LN.out _).mono ?_
     rintro y w2 ⟨rfl, rfl⟩
     go_wp2_with fail
     refine (LP.out _).mono ?_
     rintro y w2 ⟨rfl, rfl⟩
     go_upto_region 5 with fail
     rw [HW1.out, HX.out]
     go_wp2_with fail
     refine (SN.out).mono ?_
     rintro y w3 ⟨rfl, hb3, c0, c1, c2⟩
     have HB3 := Lib.hid hb3
     clear hb3
     go_wp2_with fail
     refine (US.out _ c0 c1 c2).mono ?_
     rintro y w4 ⟨rfl, hb4⟩
     have HB4 := Lib.hid (b_trans' HB3.out hb4 (by rw [← HX.out]; exact HB3.out.size))
     clear hb4 c0 c1 c2
     go_wp2_with fail
     refine (unmin_any _).mono ?_
     rintro y w5 ⟨rfl, rfl⟩
     go_wp2_with fail
     refine (bool2i_any _ _).mono ?_
     rintro y w5 ⟨rfl, rfl⟩
     go_wp2_with fail
     refine (RD.out _).mono ?_
     rintro y w5 ⟨rfl, rfl⟩
     go_wp2_with fail
     refine (PK.out _).mono ?_
     rintro y w5 ⟨⟨v, hv, rfl⟩, rfl⟩
     go_wp2_with fail
     go_ret2
     rw [HX.out]
     exact ⟨⟨_, _, near.out, hv, rfl⟩, HB4.out⟩
   · rw [if_neg hbig] at near
     have k2 : decide ((36028797018963966 : Int) ≤ (u : Int)) = false := decide_eq_false (by omega)
     have k2' : decide (36028797018963966 ≤ u) = false := decide_eq_false hbig
     have g8 : bits .or .u64 (u : Int) ((u % 2 : Nat) : Int) = (u : Int) := by
      have h1 := u64_or_nat u (u % 2) (by omega) (by omega)
      have h2 : u ||| u % 2 = u := by
       rcases Nat.mod_two_eq_zero_or_one u with h | h
       · rw [h, Nat.or_zero]
       · rw [h, Fl.or_one, if_neg (by omega)]
      rw [h2] at h1
      exact h1
     have hm2 : Fl.rnd4 u < 9007199254740992 := by unfold Fl.rnd4; omega
     have RD := Lib.hid (fun W => round4_any u (by omega) W)
     obtain ⟨m, hmm⟩ : ∃ m, Fl.rnd4 u = m := ⟨_, rfl⟩
     rw [hmm] at RD near hm2
     have g9 := hor m hm2
     have g10 : IntKind.i64.wrap e = e := by rw [IntKind.wrap_i64]; omega
     have g10' : wrap64 e = e := by unfold wrap64; omega
     have g11 : IntKind.i64.wrap (-e) = -e := by rw [IntKind.wrap_i64]; omega
     have g11' : wrap64 (-e) = -e := by unfold wrap64; omega
     have PK := Lib.hid (hpk m (-e) hm2 (by omega))
     obtain ⟨u2, hu2⟩ : ∃ m, u % 2 = m := ⟨_, rfl⟩
     obtain ⟨tm, htm⟩ : ∃ t, T + m = t := ⟨_, rfl⟩
     rw [hu2] at g6 g8
     rw [htm] at PK g9
     have near := Lib.hid near
     clear hbig hmm hu2 htm hm hm2 hor hpk hu hx hul h64 hmb x0 x1 hd0 hd h0 h1 b0 b1 lb0 lb1 hsb heb hs8 hTl R hS hw hc64
     go_enter Tryz.func200, Tryz.ntmps200
     go_wp2_with fail
     refine (LN.out _).mono ?_
     rintro y w2 ⟨rfl, rfl⟩
     go_wp2_with fail
     refine (LP.out _).mono ?_
     rintro y w2 ⟨rfl, rfl⟩
     go_upto_region 5 with fail
     rw [HW1.out, HX.out]
     go_wp2_with fail
     refine (SN.out).mono ?_
     rintro y w3 ⟨rfl, hb3, c0, c1, c2⟩
     have HB3 := Lib.hid hb3
     clear hb3
     go_wp2_with fail
     refine (US.out _ c0 c1 c2).mono ?_
     rintro y w4 ⟨rfl, hb4⟩
     have HB4 := Lib.hid (b_trans' HB3.out hb4 (by rw [← HX.out]; exact HB3.out.size))
     clear hb4 c0 c1 c2
     go_wp2_with fail
     refine (unmin_any _).mono ?_
     rintro y w5 ⟨rfl, rfl⟩
     go_wp2_with fail
     refine (bool2i_any _ _).mono ?_
     rintro y w5 ⟨rfl, rfl⟩
     go_wp2_with fail
     refine (RD.out _).mono ?_
     rintro y w5 ⟨rfl, rfl⟩
     go_wp2_with fail
     refine (PK.out _).mono ?_
     rintro y w5 ⟨⟨v, hv, rfl⟩, rfl⟩
     go_wp2_with fail
     go_ret2
     rw [HX.out]
     exact ⟨⟨_, _, near.out, hv, rfl⟩, HB4.out⟩
theorem prefix_dig (t P : ByteArray) (h : 0 < t.size) (ht : t.size ≤ 1000) (hd : 48 ≤ (t[0]'h).toNat ∧ (t[0]'h).toNat ≤ 57) (hP : 0 < P.size) (hP2 : P.size ≤ 1000) (hp : 97 ≤ (P[0]'hP).toNat) (w : World) :
 Calls Tryz.prog 205 #[.string t, .string P] w fun x w' => x = .returned (.int .i64 0) ∧ w' = w := by
 obtain ⟨n, hn⟩ : ∃ n : Int, min (P.size : Int) (t.size : Int) = n := ⟨_, rfl⟩
 have hn1 : decide (0 < n) = true := decide_eq_true (by omega)
 have hi2 : (0 : Int) < t.size := by omega
 have hi3 : (0 : Int) < P.size := by omega
 obtain ⟨d, hd0⟩ : ∃ d : UInt8, t[0]'h = d := ⟨_, rfl⟩
 obtain ⟨p, hp0⟩ : ∃ d : UInt8, P[0]'hP = d := ⟨_, rfl⟩
 rw [hd0] at hd
 rw [hp0] at hp
 have c1 : decide ((65 : Int) ≤ (d.toNat : Int)) = false := decide_eq_false (by omega)
 have c1' : decide (65 ≤ d.toNat) = false := decide_eq_false (by omega)
 have c2 : ((d.toNat : Int) == (p.toNat : Int)) = false := by rw [beq_eq_false_iff_ne]; omega
 clear ht hd hp hP2
 go_enter Tryz.func205, Tryz.ntmps205
 go_wp2_with fail
 go_loopg [6] 1 (fun _ t6 wx => t6 = .int .i64 0 ∧ wx = w)
 case atStart => exact ⟨rfl, rfl⟩
 case round =>
  obtain ⟨rfl, rfl⟩ := hrel
  go_wp2_with fail
  go_ret
  exact ⟨rfl, rfl⟩
theorem special_dig (s : ByteArray) (h : 0 < s.size) (hs : s.size ≤ 1000) (hd : 48 ≤ (s[0]'h).toNat ∧ (s[0]'h).toNat ≤ 57) (w : World) :
 Calls Tryz.prog 188 #[.string s] w fun x w' => x = .returned (.tuple #[.float .f64 0, .int .i64 0, .bool false]) ∧ w' = w := by
 have c0 : ((s.size : Int) == 0) = false := by rw [beq_eq_false_iff_ne]; omega
 have hi2 : (0 : Int) < s.size := by omega
 obtain ⟨d, hd0⟩ : ∃ d : UInt8, s[0]'h = d := ⟨_, rfl⟩
 rw [hd0] at hd
 have k1 : ((d.toNat : Int) == 43) = false := by rw [beq_eq_false_iff_ne]; omega
 have k2 : ((d.toNat : Int) == 45) = false := by rw [beq_eq_false_iff_ne]; omega
 have k3 : ((d.toNat : Int) == 105) = false := by rw [beq_eq_false_iff_ne]; omega
 have k4 : ((d.toNat : Int) == 73) = false := by rw [beq_eq_false_iff_ne]; omega
 have k5 : ((d.toNat : Int) == 110) = false := by rw [beq_eq_false_iff_ne]; omega
 have k6 : ((d.toNat : Int) == 78) = false := by rw [beq_eq_false_iff_ne]; omega
 clear hs hd
 go_enter Tryz.func188, Tryz.ntmps188
 go_wp2_with fail
 go_ret3
 exact ⟨rfl, rfl⟩
theorem special_neg (s t : ByteArray) (h : 0 < s.size) (hs : s.size ≤ 1000) (h45 : s[0]'h = 45) (ht : s.extract 1 s.size = t) (h1 : 0 < t.size) (hts : t.size ≤ 1000) (hd : 48 ≤ (t[0]'h1).toNat ∧ (t[0]'h1).toNat ≤ 57) (w : World) :
 Calls Tryz.prog 188 #[.string s] w fun x w' => x = .returned (.tuple #[.float .f64 0, .int .i64 0, .bool false]) ∧ w' = w := by
 have PD := Lib.hid (fun W => prefix_dig t ⟨#[105, 110, 102, 105, 110, 105, 116, 121]⟩ h1 hts hd (by decide) (by decide) (by decide) W)
 have c0 : ((s.size : Int) == 0) = false := by rw [beq_eq_false_iff_ne]; omega
 have hi2 : (0 : Int) < s.size := by omega
 have hi1 : (1 : Int) ≤ s.size := by omega
 clear hs hd hts
 go_enter Tryz.func188, Tryz.ntmps188
 go_wp2_with fail
 refine (PD.out _).mono ?_
 rintro x w1 ⟨rfl, rfl⟩
 go_wp2_with fail
 go_ret3
 exact ⟨rfl, rfl⟩
theorem lower_e (w : World) : Calls Tryz.prog 169 #[.int .u8 101] w fun x w' => x = .returned (.int .u8 101) ∧ w' = w := by
 have g : bits .or .u8 101 32 = 101 := by decide
 go_enter Tryz.func169, Tryz.ntmps169
 go_wp2_with fail
 go_ret
 exact ⟨rfl, rfl⟩
theorem byte_of {s : ByteArray} {k : Nat} {b : UInt8} (h : s.data.toList[k]? = some b) : ∃ hk : k < s.size, s[k]'hk = b := by
 obtain ⟨hk, he⟩ := List.getElem?_eq_some_iff.1 h
 have hs : s.data.toList.length = s.size := by simp
 refine ⟨by omega, ?_⟩
 rw [← he]
 simp
 rfl
theorem dig_nat {x : Nat} (h : x < 10) : (UInt8.ofNat (48 + x)).toNat = 48 + x := by simp; omega
structure DigAt (s : ByteArray) (k p x : Nat) (d : UInt8) : Prop where
 lt : p < s.size
 byte : s[p]'lt = d
 pi : (p : Int) < s.size
 r1 : ((d.toNat : Int) == 95) = false
 r2 : ((d.toNat : Int) == 46) = false
 r3 : decide ((48 : Int) ≤ (d.toNat : Int)) = true
 r3' : decide (48 ≤ d.toNat) = true
 r4 : decide ((d.toNat : Int) ≤ 57) = true
 r4' : decide (d.toNat ≤ 57) = true
 r5 : IntKind.i64.wrap ((k : Int) + 1) = ((k + 1 : Nat) : Int)
 r5' : wrap64 ((k : Int) + 1) = ((k + 1 : Nat) : Int)
 r6 : IntKind.i64.wrap ((p : Int) + 1) = ((p + 1 : Nat) : Int)
 r6' : wrap64 ((p : Int) + 1) = ((p + 1 : Nat) : Int)
 r7 : decide ((p : Int) < (s.size : Int)) = true
 r7' : decide (p < s.size) = true
 s3 : IntKind.u8.wrap ((d.toNat : Int) - 48) = (x : Int)
 s4 : IntKind.u64.wrap (x : Int) = (x : Int)
 zero : (x = 0 ∧ ((d.toNat : Int) == 48) = true) ∨ (x ≠ 0 ∧ ((d.toNat : Int) == 48) = false)
theorem digAt {s : ByteArray} {p x : Nat} (k : Nat) (hs : s.size ≤ 1000) (hk : k ≤ 1000) (hx : x < 10) (h : s.data.toList[p]? = some (UInt8.ofNat (48 + x))) : ∃ d, DigAt s k p x d := by
 obtain ⟨hp, hb⟩ := byte_of h
 have hdn := dig_nat hx
 generalize UInt8.ofNat (48 + x) = d at hb hdn
 refine ⟨d, hp, hb, by omega, ?_, ?_, decide_eq_true (by omega), decide_eq_true (by omega), decide_eq_true (by omega), decide_eq_true (by omega), ?_, ?_, ?_, ?_, decide_eq_true (by omega), decide_eq_true hp, ?_, ?_, ?_⟩
 · rw [beq_eq_false_iff_ne]; omega
 · rw [beq_eq_false_iff_ne]; omega
 · rw [IntKind.wrap_i64]; omega
 · unfold wrap64; omega
 · rw [IntKind.wrap_i64]; omega
 · unfold wrap64; omega
 · rw [IntKind.wrap_u8]; omega
 · rw [IntKind.wrap_u64]; omega
 · by_cases h0 : x = 0
   · left; exact ⟨h0, by rw [beq_iff_eq]; omega⟩
   · right; exact ⟨h0, by rw [beq_eq_false_iff_ne]; omega⟩
structure StepLo (l : List Nat) (k x q M M10 M1 : Nat) (T : Bool) : Prop where
 m0 : Fl.mantN l k = M
 t0 : Fl.truncN l k = T
 q0 : min k 19 = q
 m1 : Fl.mantN l (k + 1) = M1
 t1 : Fl.truncN l (k + 1) = T
 q1 : min (k + 1) 19 = q + 1
 s1 : decide ((q : Int) < 19) = true
 s1' : decide (q < 19) = true
 s2 : IntKind.u64.wrap ((M : Int) * 10) = (M10 : Int)
 s5 : IntKind.u64.wrap ((M10 : Int) + (x : Int)) = (M1 : Int)
 s6 : IntKind.i64.wrap ((q : Int) + 1) = ((q + 1 : Nat) : Int)
 s6' : wrap64 ((q : Int) + 1) = ((q + 1 : Nat) : Int)
theorem stepLo {l : List Nat} {k x : Nat} (hd : Dc.Digs l) (hx : l[k]? = some x) (hk : k < 19) : ∃ q M M10 M1 T, StepLo l k x q M M10 M1 T := by
 have hx9 := hd x (List.mem_of_getElem? hx)
 have e1 := Fl.mantN_succ hx hk
 have hl := Fl.mantN_lt hd k
 have hMb : Fl.mantN l k < 1000000000000000000 := Nat.lt_of_lt_of_le hl (Nat.le_trans (Nat.pow_le_pow_right (by decide) (show min k 19 ≤ 18 by omega)) (by decide))
 refine ⟨min k 19, Fl.mantN l k, Fl.mantN l k * 10, Fl.mantN l (k + 1), Fl.truncN l k, rfl, rfl, rfl, rfl, ?_, by omega, decide_eq_true (by omega), decide_eq_true (by omega), ?_, ?_, ?_, ?_⟩
 · rw [Fl.truncN_low (by omega), Fl.truncN_low (by omega)]
 · rw [IntKind.wrap_u64]; omega
 · rw [IntKind.wrap_u64]; omega
 · rw [IntKind.wrap_i64]; omega
 · unfold wrap64; omega
structure StepHi (l : List Nat) (k q M : Nat) (T T1 : Bool) : Prop where
 m0 : Fl.mantN l k = M
 t0 : Fl.truncN l k = T
 q0 : min k 19 = q
 m1 : Fl.mantN l (k + 1) = M
 t1 : Fl.truncN l (k + 1) = T1
 q1 : min (k + 1) 19 = q
 s1 : decide ((q : Int) < 19) = false
 s1' : decide (q < 19) = false
theorem stepHi {l : List Nat} {k x : Nat} (hx : l[k]? = some x) (hk : ¬ k < 19) : ∃ q M T, StepHi l k q M T (T || (x != 0)) :=
 ⟨min k 19, Fl.mantN l k, Fl.truncN l k, rfl, rfl, rfl, Fl.mantN_stay (by omega), Fl.truncN_succ hx (by omega), by omega, decide_eq_false (by omega), decide_eq_false (by omega)⟩
structure StepE (el : List Nat) (j : Nat) (d : UInt8) (e0 E10 S e1 : Nat) : Prop where
 m0 : Fl.num (el.take j) = e0
 m1 : Fl.num (el.take (j + 1)) = e1
 f0 : decide ((e0 : Int) < 10000) = true
 f0' : decide (e0 < 10000) = true
 f1 : IntKind.i64.wrap ((e0 : Int) * 10) = (E10 : Int)
 f1' : wrap64 ((e0 : Int) * 10) = (E10 : Int)
 f2 : IntKind.i64.wrap (d.toNat : Int) = (d.toNat : Int)
 f2' : wrap64 (d.toNat : Int) = (d.toNat : Int)
 f3 : IntKind.i64.wrap ((E10 : Int) + (d.toNat : Int)) = (S : Int)
 f3' : wrap64 ((E10 : Int) + (d.toNat : Int)) = (S : Int)
 f4 : IntKind.i64.wrap ((S : Int) - 48) = (e1 : Int)
 f4' : wrap64 ((S : Int) - 48) = (e1 : Int)
theorem stepE {el : List Nat} {j y : Nat} (hy : el[j]? = some y) (hy9 : y < 10) (h : Fl.num el ≤ 2000) {d : UInt8} (hd : d.toNat = 48 + y) : ∃ e0 E10 S e1, StepE el j d e0 E10 S e1 := by
 have e1 : Fl.num (el.take (j + 1)) = 10 * Fl.num (el.take j) + y := by rw [Fl.take_snoc hy, Fl.num_snoc]
 have hle : Fl.num (el.take j) ≤ 2000 := by
  have h1 := Fl.num_append (el.take j) (el.drop j)
  rw [List.take_append_drop] at h1
  have h2 : Fl.num (el.take j) * 1 ≤ Fl.num (el.take j) * 10 ^ (el.drop j).length := Nat.mul_le_mul_left _ (Nat.pos_of_ne_zero (by simp))
  omega
 refine ⟨Fl.num (el.take j), Fl.num (el.take j) * 10, Fl.num (el.take j) * 10 + d.toNat, Fl.num (el.take (j + 1)), rfl, rfl, decide_eq_true (by omega), decide_eq_true (by omega), ?_, ?_, ?_, ?_, ?_, ?_, ?_, ?_⟩
 · rw [IntKind.wrap_i64]; omega
 · unfold wrap64; omega
 · rw [IntKind.wrap_i64]; omega
 · unfold wrap64; omega
 · rw [IntKind.wrap_i64]; omega
 · unfold wrap64; omega
 · rw [IntKind.wrap_i64]; omega
 · unfold wrap64; omega
theorem digAt_val {s : ByteArray} {k p x : Nat} {d : UInt8} (G : DigAt s k p x d) (hx : x < 10) (h : s.data.toList[p]? = some (UInt8.ofNat (48 + x))) : d.toNat = 48 + x := by
 obtain ⟨hp, hb⟩ := byte_of h
 have := G.byte
 rw [hb] at this
 rw [← this]
 exact dig_nat hx
structure ExitF (s : ByteArray) (n p p1 M : Nat) : Prop where
 e1 : p + 1 = p1
 n0 : decide (0 < n) = true
 pi : (p : Int) < s.size
 pd : decide ((p : Int) < (s.size : Int)) = true
 pd' : decide (p < s.size) = true
 p1w : IntKind.i64.wrap ((p : Int) + 1) = (p1 : Int)
 p1w' : wrap64 ((p : Int) + 1) = (p1 : Int)
 p1d : decide ((s.size : Int) ≤ (p1 : Int)) = false
 p1d' : decide (s.size ≤ p1) = false
 p1i : (p1 : Int) < s.size
 m0 : ((M : Int) == 0) = false
theorem exitF {s : ByteArray} {n p M : Nat} (hs : s.size ≤ 1000) (hn : 0 < n) (hp : p + 1 < s.size) (hM : 0 < M) : ∃ p1, ExitF s n p p1 M := by
 refine ⟨p + 1, rfl, decide_eq_true hn, by omega, decide_eq_true (by omega), decide_eq_true (by omega), ?_, ?_, decide_eq_false (by omega), decide_eq_false (by omega), by omega, ?_⟩
 · rw [IntKind.wrap_i64]; omega
 · unfold wrap64; omega
 · rw [beq_eq_false_iff_ne]; omega
structure EndF (n q : Nat) (v z E r : Int) : Prop where
 w1 : IntKind.i64.wrap v = z
 w1' : wrap64 v = z
 w2 : IntKind.i64.wrap ((n : Int) + z) = n + E
 w2' : wrap64 ((n : Int) + z) = n + E
 w3 : IntKind.i64.wrap ((n : Int) + E - (q : Int)) = r
 w3' : wrap64 ((n : Int) + E - (q : Int)) = r
theorem endF {n q : Nat} {E : Int} (hn : n ≤ 1000) (hq : q ≤ 1000) (h0 : -2000 ≤ E) (h1 : E ≤ 2000) : EndF n q E E E (n + E - (q : Int)) := by
 refine ⟨?_, ?_, ?_, ?_, ?_, ?_⟩
 · rw [IntKind.wrap_i64]; omega
 · unfold wrap64; omega
 · rw [IntKind.wrap_i64]; omega
 · unfold wrap64; omega
 · rw [IntKind.wrap_i64]; omega
 · unfold wrap64; omega
structure PlaceF (s : ByteArray) (p : Nat) : Prop where
 d1 : decide ((s.size : Int) ≤ (p : Int)) = false
 d2 : decide (s.size ≤ p) = false
 d3 : decide ((p : Int) < (s.size : Int)) = true
 d4 : decide (p < s.size) = true
theorem placeF {s : ByteArray} {p : Nat} (h : p < s.size) : PlaceF s p := ⟨decide_eq_false (by omega), decide_eq_false (by omega), decide_eq_true (by omega), decide_eq_true h⟩
structure DigB (d : UInt8) : Prop where
 b43 : ((d.toNat : Int) == 43) = false
 b45 : ((d.toNat : Int) == 45) = false
 lo : decide ((d.toNat : Int) < 48) = false
 lo' : decide (d.toNat < 48) = false
 hi : decide ((57 : Int) < (d.toNat : Int)) = false
 hi' : decide (57 < d.toNat) = false
theorem digB_of {s : ByteArray} {k p x : Nat} {d : UInt8} (G : DigAt s k p x d) : DigB d := by
 have h1 := of_decide_eq_true G.r3'
 have h2 := of_decide_eq_true G.r4'
 refine ⟨?_, ?_, decide_eq_false (by omega), decide_eq_false (by omega), decide_eq_false (by omega), decide_eq_false (by omega)⟩
 · rw [beq_eq_false_iff_ne]; omega
 · rw [beq_eq_false_iff_ne]; omega
end Go.Proofs.YtjapgpmoojfhnaaGreatDoor
