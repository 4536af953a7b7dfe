/- order of digits. canonical at a number that is not negative. round: m / 2^n, the half to even. A format's row, boxed. Bits of a number that is neither zero nor infinite, at the format half. Bits of a number that is neither zero nor infinite, at the format single. Bits of a number that is neither zero nor infinite, at the format double. Bits of every canonical text, at the three formats; at another size. FromBits at the format half. FromBits at the format single. -/
import Derived.Test.YtjapgpmoojfhnaaGreatDoorB01
import Derived.Test.YtjapgpmoojfhnaaGreatDoorB03
import Derived.Test.YtjapgpmoojfhnaaGreatDoorB07
import Derived.Laws.BitsAllLaws
namespace Go.Proofs.YtjapgpmoojfhnaaGreatDoor
open Go.RowKit Go.Lib

def ordB (a b : ByteArray) : Int := if a.size = b.size then Lib.compareBytes a.data.toList b.data.toList else (a.size : Int) - (b.size : Int)
set_option maxRecDepth 100000 in
theorem order_any (a b : ByteArray) (w : World) (ha : a.size ≤ 1073741824) (hb : b.size ≤ 1073741824) : Calls Tryz.prog 75 #[.string a, .string b] w fun x w' => x = .returned (.int .i64 (ordB a b)) ∧ w' = w := by
  have CM := Lib.hid (fun W => Tryz.strings_Compare a b W)
  unfold ordB
  by_cases h : a.size = b.size
  · rw [if_pos h]
    have c1 : ((a.size : Int) != (b.size : Int)) = false := by rw [h]; simp
    obtain ⟨k, hk⟩ : ∃ k, Lib.compareBytes a.data.toList b.data.toList = k := ⟨_, rfl⟩
    rw [hk] at CM ⊢
    clear h hk ha hb
    go_enter Tryz.func75, Tryz.ntmps75
    go_wp2_with fail
    refine (CM.out _).mono ?_
    rintro x w1 ⟨rfl, rfl⟩
    go_wp2_with fail
    go_ret
    exact ⟨rfl, rfl⟩
  · rw [if_neg h]
    have c1 : ((a.size : Int) != (b.size : Int)) = true := by rw [bne_iff_ne]; omega
    have g1 : IntKind.i64.wrap ((a.size : Int) - (b.size : Int)) = (a.size : Int) - (b.size : Int) := IntWalk.i64_in _ (by omega)
    clear h ha hb
    go_enter Tryz.func75, Tryz.ntmps75
    go_wp2_with fail
    go_ret
    exact ⟨rfl, rfl⟩
end Go.Proofs.YtjapgpmoojfhnaaGreatDoor

namespace Go.Proofs.YtjapgpmoojfhnaaGreatDoor
open Go.RowKit Go.Lib

set_option maxHeartbeats 1000000 in
set_option maxRecDepth 100000 in
theorem canonical_any (s T : ByteArray) (e x : Int) (w : World) (hs : s.size ≤ 100000) (hT : (⟨(Lib.trimRightB s.data.toList 48).toArray⟩ : ByteArray) = T) (hTs : T.size ≤ 100000) (he : -1000000 ≤ e ∧ e ≤ 1000000) (hx : e + (s.size : Int) - (T.size : Int) = x) (hxi : (itoa x).length ≤ 100) (hL : Laid w) :
    Calls Tryz.prog 79 #[.bool false, .string s, .int .i64 e] w fun z w' => z = .returned (.string (T ++ ⟨#[101]⟩ ++ ⟨(itoa x).toArray⟩)) ∧ Below w.heap.size w w' := by
  have TR : ∀ W, Calls Tryz.prog 124 #[.string s, .string ⟨#[48]⟩] W fun z w' => z = .returned (.string T) ∧ w' = W := fun W => by
    have h := Tryz.strings_TrimRight_one s 48 (by decide) W (by omega)
    rw [hT] at h
    exact h
  have g1 : IntKind.i64.wrap (e + (s.size : Int)) = e + (s.size : Int) := IntWalk.i64_in _ (by omega)
  have g2 : IntKind.i64.wrap (e + (s.size : Int) - (T.size : Int)) = x := by rw [← hx]; exact IntWalk.i64_in _ (by omega)
  have IT := fun W hW => itoa_any x (by omega) (by omega) W hW
  obtain ⟨I, hI⟩ : ∃ I : ByteArray, ⟨(itoa x).toArray⟩ = I := ⟨_, rfl⟩
  have hIs : I.size ≤ 100 := by rw [← hI]; exact hxi
  rw [hI] at IT ⊢
  have hadd1 := fun W => run_string_add_sum (P := Tryz.prog) (w := W) T ⟨#[101]⟩ (by show T.size + 1 ≤ _; omega)
  have hadd2 := fun W => run_string_add_sum (P := Tryz.prog) (w := W) (T ++ ⟨#[101]⟩) I (by rw [ByteArray.size_append]; show T.size + 1 + I.size ≤ _; omega)
  have TR := Lib.hid TR
  have IT := Lib.hid IT
  have HL := Lib.hid hL
  clear hI hIs hT hTs hs he hx hxi hL
  go_enter Tryz.func79, Tryz.ntmps79
  go_wp2_with fail
  refine (TR.out _).mono ?_
  rintro z w1 ⟨rfl, rfl⟩
  go_wp2_with fail
  refine (IT.out _ HL.out).mono ?_
  rintro z w2 ⟨rfl, hb2⟩
  go_wp2_with fail
  go_ret
  exact ⟨rfl, hb2⟩
end Go.Proofs.YtjapgpmoojfhnaaGreatDoor

namespace Go.Proofs.YtjapgpmoojfhnaaGreatDoor
open Go.RowKit Go.Lib

theorem below_drewN' {B : Nat} {w w' : World} (h : Below B w w') (n : Nat) : Below B w (w'.drewN n) := by
  obtain ⟨a, b, c, d, e⟩ := h
  exact ⟨a, b, c, d, e⟩
set_option maxHeartbeats 1000000 in
set_option maxRecDepth 100000 in
theorem round_any (m c : Nat) (w : World) (h0 : 0 < m) (hm : m < 9007199254740992) (hc : 0 < c) (hc2 : c ≤ 10000) :
    Calls Tryz.prog 68 #[.int .u64 (m : Int), .int .i64 (c : Int)] w fun x w' => x = .returned (.tuple #[.int .u64 (Fl.rnd m c : Nat), .bool (m % 2 ^ c == 0)]) ∧ Below w.heap.size w w' := by
  by_cases hbig : 63 < c
  · have hp : m < 2 ^ (c - 1) := Nat.lt_of_lt_of_le hm (Nat.le_trans (by decide : 9007199254740992 ≤ 2 ^ 63) (Nat.pow_le_pow_right (by decide) (by omega)))
    have e1 : Fl.rnd m c = 0 := Fl.rnd_far hp hc
    have e2 : (m % 2 ^ c == 0) = false := by
      rw [beq_eq_false_iff_ne, Nat.mod_eq_of_lt (Nat.lt_of_lt_of_le hp (Nat.pow_le_pow_right (by decide) (by omega)))]
      omega
    rw [e1, e2]
    have c1 : decide ((63 : Int) < (c : Int)) = true := decide_eq_true (by omega)
    clear hbig hp e1 e2 h0 hm hc hc2
    go_enter Tryz.func68, Tryz.ntmps68
    go_wp2_with fail
    go_ret2
    exact ⟨rfl, Below.refl _ _⟩
  · have c1 : decide ((63 : Int) < (c : Int)) = false := decide_eq_false (by omega)
    obtain ⟨R, hR⟩ : ∃ R, m % 2 ^ c = R := ⟨_, rfl⟩
    obtain ⟨Q, hQ⟩ : ∃ Q, m / 2 ^ c = Q := ⟨_, rfl⟩
    obtain ⟨H, hH⟩ : ∃ H, 2 ^ (c - 1) = H := ⟨_, rfl⟩
    obtain ⟨V, hV⟩ : ∃ V, Fl.rnd m c = V := ⟨_, rfl⟩
    have hVQ : V = Q + (if H < R ∨ (R = H ∧ Q % 2 = 1) then 1 else 0) := by rw [← hV, ← hR, ← hQ, ← hH]; rfl
    rw [hR, hV]
    obtain ⟨P, hP⟩ : ∃ P, 2 ^ c = P := ⟨_, rfl⟩
    have hP0 : 0 < P := by rw [← hP]; exact Nat.two_pow_pos _
    have hPle : P ≤ 9223372036854775808 := by rw [← hP]; exact Nat.le_trans (Nat.pow_le_pow_right (by decide) (show c ≤ 63 by omega)) (by decide)
    have hHP : P = 2 * H := by rw [← hP, ← hH, ← Nat.pow_succ']; congr 1; omega
    have hRm : R < P := by rw [← hR, ← hP]; exact Nat.mod_lt _ (Nat.two_pow_pos _)
    have hQm : Q ≤ m := by rw [← hQ]; exact Nat.div_le_self _ _
    have g0 : ((2 : Int) ^ c) = (P : Int) := by rw [← hP]; simp
    have g1 : (m : Int) / 2 ^ c = (Q : Int) := by rw [g0, ← hQ, hP]; rfl
    have g2 : IntKind.u64.wrap (2 ^ c) = (P : Int) := by rw [g0, IntKind.wrap_u64]; omega
    have g3 : IntKind.u64.wrap ((P : Int) - 1) = ((P - 1 : Nat) : Int) := by rw [IntKind.wrap_u64]; omega
    have g4 : bits .and .u64 (m : Int) ((P - 1 : Nat) : Int) = (R : Int) := by
      have h1 := u64_and_nat m (P - 1) (by omega) (by omega)
      have e : m &&& (P - 1) = R := by rw [← hP, ← hR]; exact Nat.and_two_pow_sub_one_eq_mod m c
      rw [e] at h1
      exact h1
    have g5 : IntKind.u64.wrap (2 ^ (c - 1)) = (H : Int) := by
      have : ((2 : Int) ^ (c - 1)) = (H : Int) := by rw [← hH]; simp
      rw [this, IntKind.wrap_u64]; omega
    have g6 : bits .and .u64 (Q : Int) 1 = ((Q % 2 : Nat) : Int) := by
      have h1 := u64_and_nat Q 1 (by omega) (by decide)
      rw [Nat.and_one_is_mod] at h1
      exact h1
    have g7 : ((R : Int) == 0) = (R == 0) := by
      by_cases h : R = 0
      · rw [h]; rfl
      · rw [show (R == 0) = false by rw [beq_eq_false_iff_ne]; exact h, beq_eq_false_iff_ne]; omega
    have g8 : IntKind.u64.wrap ((Q : Int) + 1) = ((Q + 1 : Nat) : Int) := by rw [IntKind.wrap_u64]; omega
    obtain ⟨Z, hZ⟩ : ∃ Z, (R == 0) = Z := ⟨_, rfl⟩
    rw [hZ] at g7 ⊢
    obtain ⟨P1, hP1⟩ : ∃ P1, P - 1 = P1 := ⟨_, rfl⟩
    obtain ⟨q2, hq2⟩ : ∃ q2, Q % 2 = q2 := ⟨_, rfl⟩
    obtain ⟨Q1, hQ1⟩ : ∃ Q1, Q + 1 = Q1 := ⟨_, rfl⟩
    rw [hP1] at g3 g4
    rw [hq2] at g6 hVQ
    rw [hQ1] at g8
    have hc63 : c ≤ 63 := by omega
    clear hbig hR hQ hH hV g0 hP hZ hP1 hc2 hm hPle hQm hP0 hRm
    by_cases a1 : H < R
    · have c2 : decide (H < R) = true := decide_eq_true (by omega)
      have HV := Lib.hid (show V = Q1 by rw [hVQ, if_pos (.inl a1)]; omega)
      clear hVQ a1 hq2 hQ1 hHP h0
      go_enter Tryz.func68, Tryz.ntmps68
      go_wp2_with fail
      go_quiet (fail)
      go_wp2_with fail
      go_ret2
      exact ⟨by rw [HV.out]; rfl, below_drewN' (Below.refl _ _) _⟩
    · have c2 : decide (H < R) = false := decide_eq_false (by omega)
      by_cases a2 : R = H
      · by_cases a3 : q2 = 1
        · have HV := Lib.hid (show V = Q1 by rw [hVQ, if_pos (.inr ⟨a2, a3⟩)]; omega)
          subst a2
          subst a3
          clear hVQ a1 hQ1 hHP h0
          go_enter Tryz.func68, Tryz.ntmps68
          go_wp2_with fail
          go_quiet (fail)
          go_wp2_with fail
          go_ret2
          exact ⟨by rw [HV.out]; rfl, below_drewN' (Below.refl _ _) _⟩
        · have c4 : ((q2 : Int) == 1) = false := by rw [beq_eq_false_iff_ne]; omega
          have HV := Lib.hid (show V = Q by rw [hVQ, if_neg (by omega)]; omega)
          subst a2
          clear hVQ a1 a3 hq2 hQ1 hHP h0
          go_enter Tryz.func68, Tryz.ntmps68
          go_wp2_with fail
          go_quiet (fail)
          go_wp2_with fail
          go_ret2
          exact ⟨by rw [HV.out]; rfl, below_drewN' (Below.refl _ _) _⟩
      · have c3 : ((R : Int) == (H : Int)) = false := by rw [beq_eq_false_iff_ne]; omega
        have HV := Lib.hid (show V = Q by rw [hVQ, if_neg (by omega)]; omega)
        clear hVQ a1 a2 hq2 hQ1 hHP h0
        go_enter Tryz.func68, Tryz.ntmps68
        go_wp2_with fail
        go_quiet (fail)
        go_wp2_with fail
        go_ret2
        exact ⟨by rw [HV.out]; rfl, below_drewN' (Below.refl _ _) _⟩
end Go.Proofs.YtjapgpmoojfhnaaGreatDoor

namespace Go.Proofs.YtjapgpmoojfhnaaGreatDoor
open Go.RowKit Go.Lib

theorem box_three (p q r : Int) (w : World) : ∃ (w2 : World) (X : Nat), w.alloc (.cells #[.int .i64 p, .int .i64 q, .int .i64 r] 109) = w2 ∧ w.heap.size = X ∧ Below w.heap.size w w2 ∧
    ∀ W, Below w2.heap.size w2 W → W.cell? ⟨X, 0, none⟩ = some (.int .i64 p) ∧ W.cell? ⟨X, 1, none⟩ = some (.int .i64 q) ∧ W.cell? ⟨X, 2, none⟩ = some (.int .i64 r) ∧ Below w2.heap.size w2 W := by
  refine ⟨_, _, rfl, rfl, (Below.refl _ _).alloc (Nat.le_refl _) _, fun W hW => ?_⟩
  have h := heap_alloc_new w (.cells #[.int .i64 p, .int .i64 q, .int .i64 r] 109)
  have h' := (hW.block w.heap.size (lt_of_block h)).trans h
  exact ⟨at_block h' 0 _ rfl, at_block h' 1 _ rfl, at_block h' 2 _ rfl, hW⟩
/-- The sign laid over a number. -/
theorem or_sign (sg x k : Nat) (hk : k < 64) (hx : x < 2 ^ k) (hs : sg = 0 ∨ sg = 2 ^ k) : bits .or .u64 (sg : Int) (x : Int) = ((sg + x : Nat) : Int) := by
  have hp : 2 ^ k ≤ 2 ^ 63 := Nat.pow_le_pow_right (by decide) (by omega)
  have h63 : (2 : Nat) ^ 63 = 9223372036854775808 := by decide
  have h := u64_or_nat sg x (by omega) (by omega)
  have e : sg ||| x = sg + x := by
    rcases hs with rfl | rfl
    · rw [Nat.zero_or, Nat.zero_add]
    · have := Nat.two_pow_add_eq_or_of_lt hx 1
      rw [Nat.mul_one] at this
      exact this.symm
  rw [e] at h
  exact h
theorem or_bit (F k : Nat) (hk : k < 63) (hF : F < 2 ^ k) : bits .or .u64 (F : Int) ((2 ^ k : Nat) : Int) = ((2 ^ k + F : Nat) : Int) := by
  have hp : 2 ^ k ≤ 2 ^ 62 := Nat.pow_le_pow_right (by decide) (by omega)
  have h62 : (2 : Nat) ^ 62 = 4611686018427387904 := by decide
  have h := u64_or_nat F (2 ^ k) (by omega) (by omega)
  have e : F ||| 2 ^ k = 2 ^ k + F := by
    have := Nat.two_pow_add_eq_or_of_lt hF 1
    rw [Nat.mul_one] at this
    rw [Nat.or_comm]
    exact this.symm
  rw [e] at h
  exact h
theorem cvt_nat (m : Nat) (h0 : 0 < m) (hm : m < 9007199254740992) : floatOfInt FloatKind.f64 (m : Int) = Fl.wordN m := by
  have h := Fl.nearest_nat h0 hm
  change Ieee.double.nearest (decide ((m : Int) < 0)) (m : Int).natAbs 0 = _
  rw [decide_eq_false (by omega), Int.natAbs_natCast]
  exact h
theorem rung_sum {v K K1 u1 Y0 Y1 B b : Nat} (hu : (K = 2 * b ∧ K1 = b ∧ u1 = v + 2) ∨ (K1 = K ∧ u1 = v + 1)) (h0 : u1 * b = Y0) (h1 : Y0 + K1 = Y1) (hB : Y1 - b = B) : v * b + K = B := by
  rcases hu with ⟨rfl, rfl, rfl⟩ | ⟨rfl, rfl⟩
  · rw [Nat.add_mul] at h0
    omega
  · rw [Nat.add_mul] at h0
    omega
end Go.Proofs.YtjapgpmoojfhnaaGreatDoor

namespace Go.Proofs.YtjapgpmoojfhnaaGreatDoor
open Go.RowKit Go.Lib

set_option maxHeartbeats 4000000 in
set_option maxRecDepth 100000 in
theorem binbits16 (b : Nat) (hb : b < 18446744073709551616) (w : World) (h0 : 0 < b % 9223372036854775808) (hr : b % 9223372036854775808 < 9218868437227405312) (hL : Laid w) :
    Calls Tryz.prog 27 #[.string ⟨(Fl.txt b).toArray⟩, .int .i64 16] w fun x w' => x = .returned (.tuple #[.int .u64 (((if 9223372036854775808 ≤ b then 32768 else 0) + Ieee.Format.nearest Fl.half false (Fl.om (b % 9223372036854775808)) (Fl.oe (b % 9223372036854775808)) : Nat) : Int), .bool (Fl.exP Fl.half (Fl.om (b % 9223372036854775808)) (Fl.oe (b % 9223372036854775808))), .int .i64 0]) ∧ Below w.heap.size w w' := by
  have PA := Lib.hid (fun W hW => parse_num b hb W h0 hr hW)
  have OF := Lib.hid (fun W hW => of_16 W hW)
  have SB := Lib.hid (fun W => signbit_any b W hb)
  have II := Lib.hid (fun W => isinf_any b W hb)
  have o1 := ord_self hb
  have o2 := ord_zero hb hr
  obtain ⟨s1, s2, s3, s4⟩ := Fl.om_spec h0
  obtain ⟨b1, b2, b3, b4⟩ := Fl.om_bounds h0 hr
  have SP : ∀ W, Laid W → Calls Tryz.prog 66 #[.float .f64 b] W fun x w' => x = .returned (.tuple #[.int .u64 (Fl.om (b % 9223372036854775808) : Int), .int .i64 (Fl.oe (b % 9223372036854775808))]) ∧ w' = W := fun W hW => split_any b W hb h0 hr hW
  rw [decide_eq_false (by omega)] at o1
  rw [decide_eq_false (by omega)] at o2
  have i0 : (b % 9223372036854775808 == 9218868437227405312) = false := by rw [beq_eq_false_iff_ne]; omega
  rw [i0] at II
  obtain ⟨m, hm⟩ : ∃ m, Fl.om (b % 9223372036854775808) = m := ⟨_, rfl⟩
  obtain ⟨e, he⟩ : ∃ e, Fl.oe (b % 9223372036854775808) = e := ⟨_, rfl⟩
  rw [hm] at s2 s3 s4 b1 b4 SP
  rw [he] at b2 b3 b4 SP
  rw [hm, he]
  have LN : ∀ W, Calls Tryz.prog 67 #[.int .u64 (m : Int)] W fun x w' => x = .returned (.int .i64 ((m.log2 + 1 : Nat) : Int)) ∧ w' = W := fun W => by
    have h := Tryz.bits_Len64 (m : Int) W (by omega) (by omega)
    rw [Int.toNat_natCast, Fl.bitLen_log2 m (by omega) (by omega)] at h
    exact h
  obtain ⟨L, hLL⟩ : ∃ L, m.log2 + 1 = L := ⟨_, rfl⟩
  rw [hLL] at LN
  obtain ⟨U, hU⟩ : ∃ U, Fl.lastP Fl.half m e = U := ⟨_, rfl⟩
  obtain ⟨K, hK⟩ : ∃ K, Fl.keptP Fl.half m e = K := ⟨_, rfl⟩
  obtain ⟨X, hX⟩ : ∃ X, Fl.wholeP Fl.half m e = X := ⟨_, rfl⟩
  obtain ⟨N, hN⟩ : ∃ N, Ieee.Format.nearest Fl.half false m e = N := ⟨_, rfl⟩
  obtain ⟨Z, hZ⟩ : ∃ Z, Fl.exP Fl.half m e = Z := ⟨_, rfl⟩
  obtain ⟨d1, d2, d3, d4, d5⟩ := Fl.half_is
  have hUm : U = max (e + (L : Int) - 11) (-24) := by rw [← hU, ← hLL]; unfold Fl.lastP; rw [d3, d4]; omega
  obtain ⟨p1, p2, p3⟩ := Fl.kept_le Fl.half m e (by omega)
  have ns := Fl.near_small (f := Fl.half) (m := m) (e := e) (by omega) (by rw [d1, d2]; decide)
  have nb := fun B => Fl.near_big (f := Fl.half) (m := m) (e := e) (B := B) (by omega)
  rw [d4, hK] at p1
  rw [d4, hK, hU] at p2
  rw [d4, d3, hK, hU] at p3
  rw [hK, d2, hN, hZ, hX] at ns
  simp only [hK, d1, d2, d3, hU, hN, hZ, hX] at nb
  rw [hN, hZ]
  have hKd : K = if U ≤ e then m * 2 ^ (e - U).toNat else Fl.rnd m (U - e).toNat := by rw [← hK, ← hU]; rfl
  have hXd : X = (decide (U ≤ e) || (m % 2 ^ (U - e).toNat == 0)) := by rw [← hX, ← hU]; rfl
  have HF := Lib.hid (And.intro hUm (And.intro p1 (And.intro p2 (And.intro p3 (And.intro ns nb)))))
  have HK := Lib.hid (And.intro hKd hXd)
  have HB := Lib.hid (And.intro s2 (And.intro s3 (And.intro s4 (And.intro b1 (And.intro b2 (And.intro b3 (And.intro b4 hLL)))))))
  have k2 : IntKind.i64.wrap (e + (L : Int)) = e + (L : Int) := IntWalk.i64_in _ (by omega)
  have k3 : IntKind.i64.wrap (e + (L : Int) - 11) = e + (L : Int) - 11 := IntWalk.i64_in _ (by omega)
  obtain ⟨sb, hsb⟩ : ∃ sb, decide (9223372036854775808 ≤ b) = sb := ⟨_, rfl⟩
  obtain ⟨sg, hsg⟩ : ∃ sg : Nat, (if 9223372036854775808 ≤ b then 32768 else 0) = sg := ⟨_, rfl⟩
  rw [hsb] at SB
  rw [hsg]
  have HSG := Lib.hid (show (sb = true → sg = 32768) ∧ (sb = false → sg = 0) by
    rw [← hsb, ← hsg]
    by_cases h : 9223372036854775808 ≤ b
    · rw [if_pos h, decide_eq_true h]; exact ⟨fun _ => rfl, fun h => (nomatch h)⟩
    · rw [if_neg h, decide_eq_false h]; exact ⟨fun h => (nomatch h), fun _ => rfl⟩)
  have SP := Lib.hid SP
  have LN := Lib.hid LN
  have HL := Lib.hid hL
  clear hm he hL i0 h0 hr s1 s2 s3 s4 b1 b2 b3 b4 hLL hU hK hX hN hZ d1 d2 d3 d4 d5 hUm p1 p2 p3 ns nb hKd hXd hsb hsg hb
  go_enter Tryz.func27, Tryz.ntmps27
  go_wp2_with fail
  refine (PA.out _ HL.out).mono ?_
  rintro x w1 ⟨rfl, hb1⟩
  go_wp2_with fail
  have hL1 := HL.out.on hb1
  refine (OF.out _ hL1).mono ?_
  rintro x w2 ⟨rfl, hb2⟩
  go_upto_region 5 with fail
  obtain ⟨w3, Y, hw3, hY, hb3, hcells⟩ := box_three 16 11 (-24) w2
  rw [hw3, hY]
  have hc12 := hb1.trans (hb2.mono hb1.size)
  have hc13 := hc12.trans (hb3.mono hc12.size)
  have hL3 := (hL1.on hb2).on hb3
  obtain ⟨x0, x1, x2, hd3⟩ := hcells w3 (Below.refl _ _)
  have HC := Lib.hid hcells
  have HL3 := Lib.hid hL3
  have HB3 := Lib.hid hc13
  clear hcells hw3 hY hb1 hb2 hb3 hc12 hc13 hL1 hL3
  go_wp2_with fail
  refine (SB.out _).mono ?_
  rintro x w4 ⟨rfl, rfl⟩
  go_upto_if 52 with fail
  go_cut [12] (fun s wx => s = .int .u64 (sg : Int) ∧ wx = w4)
  case first =>
    cases sb with
    | true =>
      have E := Lib.hid (HSG.out.1 rfl)
      go_wp2_with fail
      go_meet
      exact ⟨by rw [E.out]; rfl, rfl⟩
    | false =>
      have E := Lib.hid (HSG.out.2 rfl)
      go_wp2_with fail
      go_meet
      exact ⟨by rw [E.out]; rfl, rfl⟩
  case rest =>
    obtain ⟨rfl, hw⟩ := hcut
    subst hw
    obtain ⟨w3, hw3⟩ : ∃ W, W = wc := ⟨_, rfl⟩
    subst hw3
    go_wp2_with fail
    refine (II.out _).mono ?_
    rintro x w4 ⟨rfl, rfl⟩
    go_wp2_with fail
    refine (SP.out _ HL3.out).mono ?_
    rintro x w5 ⟨rfl, rfl⟩
    go_upto_region 19 with fail
    go_region_held3 (fun W => W.cell? ⟨Y, 0, none⟩ = some (.int .i64 16) ∧ W.cell? ⟨Y, 1, none⟩ = some (.int .i64 11) ∧ W.cell? ⟨Y, 2, none⟩ = some (.int .i64 (-24)) ∧ Below w5.heap.size w5 W)
      ((refine HC.out _ ?_; first | assumption | exact b_drew hd3 | exact b_drew (by assumption)))
      (first | (go_at_call 67; refine (LN.out _).mono ?_; rintro x w6 ⟨rfl, rfl⟩))
    rw [← HF.out.1]
    obtain ⟨ub, hub⟩ : ∃ ub, decide (U ≤ e) = ub := ⟨_, rfl⟩
    go_upto_if 82 with fail
    go_cut [13, 16] (fun s13 s16 wx => s13 = .int .u64 (K : Int) ∧ s16 = .bool X ∧ Below w5.heap.size w5 wx)
    case first =>
      obtain ⟨r1, r2, r3, r4, r5, r6, r7, r8⟩ := HB.out
      obtain ⟨f1, f2, f3, f4, _, _⟩ := HF.out
      have hKX := HK.out
      cases ub with
      | true =>
        have hUe : U ≤ e := of_decide_eq_true hub
        obtain ⟨d, hd⟩ : ∃ d : Nat, (e - U).toNat = d := ⟨_, rfl⟩
        have hK' : K = m * 2 ^ d := by rw [hKX.1, if_pos hUe, hd]
        have hK2 := f3 hUe
        have q1 : IntKind.i64.wrap (e - U) = (d : Int) := by rw [show e - U = (d : Int) by omega]; exact IntWalk.i64_in _ (by omega)
        have q2 : IntKind.u64.wrap ((m : Int) * 2 ^ d) = (K : Int) := by
          have h : (m : Int) * 2 ^ d = (K : Int) := by rw [hK']; simp
          rw [h, IntKind.wrap_u64]; omega
        have q3 : min d 64 = d := by omega
        have E := Lib.hid (show X = true by rw [hKX.2, decide_eq_true hUe]; rfl)
        clear hUe hd hK' hK2 r1 r2 r3 r4 r5 r6 r7 r8 f1 f2 f3 f4 hKX
        go_wp2_with fail
        go_meet
        exact ⟨rfl, by rw [E.out], b_drew hd3⟩
      | false =>
        have hUe : ¬ U ≤ e := of_decide_eq_false hub
        obtain ⟨c, hc⟩ : ∃ c : Nat, (U - e).toNat = c := ⟨_, rfl⟩
        have RN := Lib.hid (fun W => round_any m c W (by omega) (by omega) (by omega) (by omega))
        have hX' : X = (m % 2 ^ c == 0) := by rw [hKX.2, decide_eq_false hUe, hc]; rfl
        have hK' : Fl.rnd m c = K := by rw [hKX.1, if_neg hUe, hc]
        rw [hK', ← hX'] at RN
        have q1 : IntKind.i64.wrap (U - e) = (c : Int) := by rw [show U - e = (c : Int) by omega]; exact IntWalk.i64_in _ (by omega)
        clear hUe hc hX' hK' r1 r2 r3 r4 r5 r6 r7 r8 f1 f2 f3 f4 hKX
        go_wp2_with fail
        refine (RN.out _).mono ?_
        rintro x w7 ⟨rfl, hb7⟩
        go_wp2_with fail
        go_meet
        exact ⟨rfl, rfl, (b_drew hd3).trans hb7⟩
    case rest =>
      obtain ⟨rfl, rfl, hbx⟩ := hcut
      obtain ⟨y0, y1, y2, _⟩ := HC.out _ hbx
      have hbE := HB3.out.trans (hbx.mono HB3.out.size)
      have HBE := Lib.hid hbE
      clear hbx hbE x0 x1 x2
      obtain ⟨kb, hkb⟩ : ∃ kb, ((K : Int) == 2048) = kb := ⟨_, rfl⟩
      obtain ⟨K1, hK1⟩ : ∃ K1, (if K = 2048 then 1024 else K) = K1 := ⟨_, rfl⟩
      obtain ⟨U1, hU1⟩ : ∃ U1, (if K = 2048 then U + 1 else U) = U1 := ⟨_, rfl⟩
      go_upto_if 100 with fail
      go_cut [13, 15] (fun s13 s15 wx => s13 = .int .u64 (K1 : Int) ∧ s15 = .int .i64 U1 ∧ wx = wc)
      case first =>
        obtain ⟨r1, r2, r3, r4, r5, r6, r7, r8⟩ := HB.out
        obtain ⟨f1, f2, f3, f4, _, _⟩ := HF.out
        cases kb with
        | true =>
          have hKe : K = 2048 := by have := eq_of_beq hkb; omega
          subst hKe
          have E1 := Lib.hid (show K1 = 1024 by rw [← hK1, if_pos rfl])
          have E2 := Lib.hid (show U1 = U + 1 by rw [← hU1, if_pos rfl])
          have q1 : IntKind.i64.wrap (U + 1) = U + 1 := IntWalk.i64_in _ (by omega)
          clear hK1 hU1 r1 r2 r3 r4 r5 r6 r7 r8 f1 f2 f3 f4 hkb
          go_wp2_with fail
          go_meet
          exact ⟨by rw [E1.out]; rfl, by rw [E2.out], rfl⟩
        | false =>
          have hKe : K ≠ 2048 := by intro h; rw [h] at hkb; exact absurd hkb (by decide)
          have E1 := Lib.hid (show K1 = K by rw [← hK1, if_neg hKe])
          have E2 := Lib.hid (show U1 = U by rw [← hU1, if_neg hKe])
          clear hK1 hU1 r1 r2 r3 r4 r5 r6 r7 r8 f1 f2 f3 f4 hKe
          go_wp2_with fail
          go_meet
          exact ⟨by rw [E1.out], by rw [E2.out], rfl⟩
      case rest =>
        obtain ⟨rfl, rfl, hwE⟩ := hcut
        subst hwE
        obtain ⟨wE, hwE⟩ : ∃ W, W = wc := ⟨_, rfl⟩
        subst hwE
        obtain ⟨r1, r2, r3, r4, r5, r6, r7, r8⟩ := HB.out
        obtain ⟨f1, f2, f3, f4, f5, f6⟩ := HF.out
        have hsgc : sg = 0 ∨ sg = 32768 := by
          cases sb
          · exact .inl (HSG.out.2 rfl)
          · exact .inr (HSG.out.1 rfl)
        have orS : ∀ x : Nat, x < 32768 → bits .or .u64 (sg : Int) (x : Int) = ((sg + x : Nat) : Int) := fun x hx => or_sign sg x 15 (by decide) hx hsgc
        by_cases hsm : K < 1024
        · have g1 : K1 = K := by rw [← hK1, if_neg (by omega)]
          have c5 : decide (K1 < 1024) = true := decide_eq_true (by omega)
          have c6 : decide ((K1 : Int) < 1024) = true := decide_eq_true (by omega)
          have o5 := orS K1 (by omega)
          obtain ⟨n1, n2⟩ := f5 hsm
          obtain ⟨Y1, hY1⟩ : ∃ Y1, sg + K1 = Y1 := ⟨_, rfl⟩
          rw [hY1] at o5
          have E1 := Lib.hid (show sg + N = Y1 by omega)
          have E2 := Lib.hid n2
          clear hK1 hU1 hkb r1 r2 r3 r4 r5 r6 r7 r8 f1 f2 f3 f4 f5 f6 hsgc orS hsm g1 n1 n2 hY1
          go_wp2_with fail
          refine bodyPost_ret (v := .tuple #[.int .u64 (Y1 : Int), .bool X, .int .i64 0]) (by simp [results, Tryz.results27, go_sem]) rfl ?_
          exact ⟨by rw [E1.out, E2.out], HBE.out⟩
        · have hK1b : 1024 ≤ K1 ∧ K1 < 2048 := by rw [← hK1]; split <;> omega
          obtain ⟨u1, hu1⟩ : ∃ u1 : Nat, U1 + 24 + 1 = (u1 : Int) := ⟨(U1 + 24 + 1).toNat, by rw [← hU1]; split <;> omega⟩
          have hu1b : u1 ≤ 2200 := by rw [← hU1] at hu1; split at hu1 <;> omega
          obtain ⟨Y0, hY0⟩ : ∃ Y0, u1 * 1024 = Y0 := ⟨_, rfl⟩
          obtain ⟨Y1, hY1⟩ : ∃ Y1, Y0 + K1 = Y1 := ⟨_, rfl⟩
          obtain ⟨B, hB⟩ : ∃ B, Y1 - 1024 = B := ⟨_, rfl⟩
          have hBf : (U - -24).toNat * 1024 + K = B := by
            obtain ⟨v, hv⟩ : ∃ v, (U - -24).toNat = v := ⟨_, rfl⟩
            rw [hv]
            refine rung_sum ?_ hY0 hY1 hB
            by_cases hKe : K = 2048
            · rw [if_pos hKe] at hK1 hU1
              exact .inl ⟨hKe, hK1.symm, by clear hY0 hY1 hB f5 f6; omega⟩
            · rw [if_neg hKe] at hK1 hU1
              exact .inr ⟨hK1.symm, by clear hY0 hY1 hB f5 f6; omega⟩
          have hfit : u1 ≤ 2047 ∨ 16 < 64 := by
            first
            | exact .inr (by decide)
            | (left; rw [← hU1] at hu1; split at hu1 <;> omega)
          have c5 : decide (K1 < 1024) = false := decide_eq_false (by omega)
          have c6 : decide ((K1 : Int) < 1024) = false := decide_eq_false (by omega)
          have m1 : IntKind.i64.wrap (U1 + 24) = U1 + 24 := IntWalk.i64_in _ (by omega)
          have m2 : IntKind.i64.wrap (U1 + 24 + 1) = (u1 : Int) := by rw [hu1]; exact IntWalk.i64_in _ (by omega)
          have m3 : IntKind.u64.wrap (u1 : Int) = (u1 : Int) := by rw [IntKind.wrap_u64]; omega
          have m4 : IntKind.u64.wrap ((u1 : Int) * 1024) = (Y0 : Int) := by rw [IntKind.wrap_u64]; omega
          have m5 : IntKind.u64.wrap (Y0 : Int) = (Y0 : Int) := by rw [IntKind.wrap_u64]; omega
          have m6 : IntKind.u64.wrap ((Y0 : Int) + (K1 : Int)) = (Y1 : Int) := by rw [IntKind.wrap_u64]; omega
          have m7 : IntKind.u64.wrap ((Y1 : Int) - 1024) = (B : Int) := by rw [IntKind.wrap_u64]; omega
          have n0 := f6 B hBf
          by_cases hbig : 31744 ≤ B
          · obtain ⟨n1, n2⟩ := n0.1 hbig
            have c7 : decide (31744 ≤ B) = true := decide_eq_true (by omega)
            have c8 : decide ((31744 : Int) ≤ (B : Int)) = true := decide_eq_true (by omega)
            have o5 := orS 31744 (by decide)
            obtain ⟨Y2, hY2⟩ : ∃ Y2, sg + 31744 = Y2 := ⟨_, rfl⟩
            rw [hY2] at o5
            have o6 : bits .or .u64 (sg : Int) 31744 = (Y2 : Int) := o5
            have E1 := Lib.hid (show sg + N = Y2 by omega)
            have E2 := Lib.hid n2
            clear hK1 hU1 hkb r1 r2 r3 r4 r5 r6 r7 r8 f1 f2 f3 f4 f5 f6 hsgc orS hsm hK1b hu1 hu1b hY0 hY1 hB hBf hfit n0 n1 n2 hbig hY2 o5
            go_wp2_with fail
            go_quiet (fail)
            go_wp2_with fail
            refine bodyPost_ret (v := .tuple #[.int .u64 (Y2 : Int), .bool false, .int .i64 0]) (by simp [results, Tryz.results27, go_sem]) rfl ?_
            exact ⟨by rw [E1.out, E2.out], below_drewN HBE.out _⟩
          · obtain ⟨n1, n2⟩ := n0.2 (by omega)
            have c7 : decide (31744 ≤ B) = false := decide_eq_false (by omega)
            have c8 : decide ((31744 : Int) ≤ (B : Int)) = false := decide_eq_false (by omega)
            have o5 := orS B (by omega)
            obtain ⟨Y2, hY2⟩ : ∃ Y2, sg + B = Y2 := ⟨_, rfl⟩
            rw [hY2] at o5
            have E1 := Lib.hid (show sg + N = Y2 by omega)
            have E2 := Lib.hid n2
            clear hK1 hU1 hkb r1 r2 r3 r4 r5 r6 r7 r8 f1 f2 f3 f4 f5 f6 hsgc orS hsm hK1b hu1 hu1b hY0 hY1 hB hBf hfit n0 n1 n2 hbig hY2
            go_wp2_with fail
            go_quiet (fail)
            go_wp2_with fail
            refine bodyPost_ret (v := .tuple #[.int .u64 (Y2 : Int), .bool X, .int .i64 0]) (by simp [results, Tryz.results27, go_sem]) rfl ?_
            exact ⟨by rw [E1.out, E2.out], below_drewN HBE.out _⟩
end Go.Proofs.YtjapgpmoojfhnaaGreatDoor

namespace Go.Proofs.YtjapgpmoojfhnaaGreatDoor
open Go.RowKit Go.Lib

end Go.Proofs.YtjapgpmoojfhnaaGreatDoor

namespace Go.Proofs.YtjapgpmoojfhnaaGreatDoor
open Go.RowKit Go.Lib

end Go.Proofs.YtjapgpmoojfhnaaGreatDoor

namespace Go.Proofs.YtjapgpmoojfhnaaGreatDoor
open Go.RowKit Go.Lib

/-- The pattern of a format that is nearest to a word, and whether nothing is lost. -/
def Fl.bitsR (f : Ieee.Format) (b : Nat) : Nat × Bool :=
  if 9218868437227405312 < b % 9223372036854775808 then (f.infRung + f.binade / 2, true) else
  if b % 9223372036854775808 = 9218868437227405312 then ((if 9223372036854775808 ≤ b then f.signWeight else 0) + f.infRung, true) else
  if b % 9223372036854775808 = 0 then ((if 9223372036854775808 ≤ b then f.signWeight else 0), true) else
  ((if 9223372036854775808 ≤ b then f.signWeight else 0) + f.nearest false (Fl.om (b % 9223372036854775808)) (Fl.oe (b % 9223372036854775808)), Fl.exP f (Fl.om (b % 9223372036854775808)) (Fl.oe (b % 9223372036854775808)))
set_option maxHeartbeats 4000000 in
set_option maxRecDepth 100000 in
theorem binbits_nan16 (b : Nat) (hn : 9218868437227405312 < b % 9223372036854775808) (w : World) (hL : Laid w) :
    Calls Tryz.prog 27 #[.string ⟨(Fl.txt b).toArray⟩, .int .i64 16] w fun x w' => x = .returned (.tuple #[.int .u64 32256, .bool true, .int .i64 0]) ∧ Below w.heap.size w w' := by
  have ht : Fl.txt b = [110, 97, 110] := by unfold Fl.txt; rw [if_pos hn]
  have PA := Lib.hid (fun W => parse_nan W)
  have OF := Lib.hid (fun W hW => of_16 W hW)
  have o1 : (FloatKind.f64.format.order 9221120237041090561 9221120237041090561 != some Ordering.eq) = true := by rw [ord_self (by decide)]; decide
  have q1 : bits .or .u64 31744 512 = (32256 : Int) := by decide
  have HL := Lib.hid hL
  rw [ht]
  clear hL hn ht
  go_enter Tryz.func27, Tryz.ntmps27
  go_wp2_with fail
  refine (PA.out _).mono ?_
  rintro x w1 ⟨rfl, hb1⟩
  go_wp2_with fail
  have hL1 := HL.out.on hb1
  refine (OF.out _ hL1).mono ?_
  rintro x w2 ⟨rfl, hb2⟩
  go_upto_region 5 with fail
  obtain ⟨w3, Y, hw3, hY, hb3, hcells⟩ := box_three 16 11 (-24) w2
  rw [hw3, hY]
  have hc12 := hb1.trans (hb2.mono hb1.size)
  have hc13 := hc12.trans (hb3.mono hc12.size)
  obtain ⟨x0, x1, x2, hd3⟩ := hcells w3 (Below.refl _ _)
  clear hcells hw3 hY hb1 hb2 hb3 hc12 hL1 hd3
  have HB3 := Lib.hid hc13
  clear hc13
  go_wp2_with fail
  refine bodyPost_ret (v := .tuple #[.int .u64 32256, .bool true, .int .i64 0]) (by simp [results, Tryz.results27, go_sem]) rfl ?_
  exact ⟨rfl, HB3.out⟩
set_option maxHeartbeats 4000000 in
set_option maxRecDepth 100000 in
theorem binbits_spec16 (b : Nat) (hb : b < 18446744073709551616) (hn : b % 9223372036854775808 = 0 ∨ b % 9223372036854775808 = 9218868437227405312) (w : World) (hL : Laid w) :
    Calls Tryz.prog 27 #[.string ⟨(Fl.txt b).toArray⟩, .int .i64 16] w fun x w' => x = .returned (.tuple #[.int .u64 (((if 9223372036854775808 ≤ b then 32768 else 0) + (if b % 9223372036854775808 = 0 then 0 else 31744) : Nat) : Int), .bool true, .int .i64 0]) ∧ Below w.heap.size w w' := by
  have hcan : Fl.canonW b = b := canon_self (by omega)
  have PA := fun W hW => parse_txt b hb W hW
  rw [hcan] at PA
  have PA := Lib.hid PA
  have OF := Lib.hid (fun W hW => of_16 W hW)
  have SB := Lib.hid (fun W => signbit_any b W hb)
  have II := Lib.hid (fun W => isinf_any b W hb)
  have o1 := ord_self hb
  rw [decide_eq_false (by omega)] at o1
  have o2 : (FloatKind.f64.format.order b 0 == some Ordering.eq) = decide (b % 9223372036854775808 = 0) := by
    rcases hn with h | h
    · exact ord_zero hb (by omega)
    · show (Ieee.Datum.order (Ieee.double.read b) (Ieee.double.read 0) == some Ordering.eq) = _
      rw [decide_eq_false (by omega), read_inf' hb h, read_num 0 (by decide)]
      cases decide (9223372036854775808 ≤ b) <;> rfl
  obtain ⟨sb, hsb⟩ : ∃ sb, decide (9223372036854775808 ≤ b) = sb := ⟨_, rfl⟩
  obtain ⟨sg, hsg⟩ : ∃ sg : Nat, (if 9223372036854775808 ≤ b then 32768 else 0) = sg := ⟨_, rfl⟩
  obtain ⟨zb, hzb⟩ : ∃ zb, decide (b % 9223372036854775808 = 0) = zb := ⟨_, rfl⟩
  obtain ⟨ad, had⟩ : ∃ ad : Nat, (if b % 9223372036854775808 = 0 then 0 else 31744) = ad := ⟨_, rfl⟩
  rw [hsb] at SB
  rw [hsg, had]
  rw [hzb] at o2
  have hii : (b % 9223372036854775808 == 9218868437227405312) = !zb := by
    rw [← hzb]
    rcases hn with h | h
    · rw [h]; decide
    · rw [h]; decide
  rw [hii] at II
  have HSG := Lib.hid (show (sb = true → sg = 32768) ∧ (sb = false → sg = 0) by
    rw [← hsb, ← hsg]
    by_cases h : 9223372036854775808 ≤ b
    · rw [if_pos h, decide_eq_true h]; exact ⟨fun _ => rfl, fun h => (nomatch h)⟩
    · rw [if_neg h, decide_eq_false h]; exact ⟨fun h => (nomatch h), fun _ => rfl⟩)
  have HZB := Lib.hid (show (zb = true → ad = 0) ∧ (zb = false → ad = 31744) by
    rw [← hzb, ← had]
    by_cases h : b % 9223372036854775808 = 0
    · rw [if_pos h, decide_eq_true h]; exact ⟨fun _ => rfl, fun h => (nomatch h)⟩
    · rw [if_neg h, decide_eq_false h]; exact ⟨fun h => (nomatch h), fun _ => rfl⟩)
  have hsgc : sg = 0 ∨ sg = 32768 := by rw [← hsg]; split <;> omega
  have o5 : bits .or .u64 (sg : Int) 31744 = ((sg + 31744 : Nat) : Int) := or_sign sg 31744 15 (by decide) (by decide) hsgc
  obtain ⟨Y2, hY2⟩ : ∃ Y2, sg + 31744 = Y2 := ⟨_, rfl⟩
  rw [hY2] at o5
  have HY2 := Lib.hid hY2
  have HL := Lib.hid hL
  clear hcan hb hn hL hsb hsg hzb had hii hsgc hY2
  go_enter Tryz.func27, Tryz.ntmps27
  go_wp2_with fail
  refine (PA.out _ HL.out).mono ?_
  rintro x w1 ⟨rfl, hb1⟩
  go_wp2_with fail
  have hL1 := HL.out.on hb1
  refine (OF.out _ hL1).mono ?_
  rintro x w2 ⟨rfl, hb2⟩
  go_upto_region 5 with fail
  obtain ⟨w3, Y, hw3, hY, hb3, hcells⟩ := box_three 16 11 (-24) w2
  rw [hw3, hY]
  have hc12 := hb1.trans (hb2.mono hb1.size)
  have hc13 := hc12.trans (hb3.mono hc12.size)
  obtain ⟨x0, x1, x2, hd3⟩ := hcells w3 (Below.refl _ _)
  clear hcells hw3 hY hb1 hb2 hb3 hc12 hL1 hd3
  have HB3 := Lib.hid hc13
  clear hc13
  go_wp2_with fail
  refine (SB.out _).mono ?_
  rintro x w4 ⟨rfl, rfl⟩
  go_upto_if 52 with fail
  go_cut [12] (fun s wx => s = .int .u64 (sg : Int) ∧ wx = w4)
  case first =>
    cases sb with
    | true =>
      have E := Lib.hid (HSG.out.1 rfl)
      go_wp2_with fail
      go_meet
      exact ⟨by rw [E.out]; rfl, rfl⟩
    | false =>
      have E := Lib.hid (HSG.out.2 rfl)
      go_wp2_with fail
      go_meet
      exact ⟨by rw [E.out]; rfl, rfl⟩
  case rest =>
    obtain ⟨rfl, hw⟩ := hcut
    subst hw
    obtain ⟨w3, hw3⟩ : ∃ W, W = wc := ⟨_, rfl⟩
    subst hw3
    cases zb with
    | true =>
      have E := Lib.hid (HZB.out.1 rfl)
      go_wp2_with fail
      refine bodyPost_ret (v := .tuple #[.int .u64 (sg : Int), .bool true, .int .i64 0]) (by simp [results, Tryz.results27, go_sem]) rfl ?_
      exact ⟨by rw [E.out]; simp, HB3.out⟩
    | false =>
      have E := Lib.hid (HZB.out.2 rfl)
      go_wp2_with fail
      refine (II.out _).mono ?_
      rintro x w5 ⟨rfl, rfl⟩
      go_wp2_with fail
      refine bodyPost_ret (v := .tuple #[.int .u64 (Y2 : Int), .bool true, .int .i64 0]) (by simp [results, Tryz.results27, go_sem]) rfl ?_
      exact ⟨by rw [E.out, HY2.out], HB3.out⟩
theorem binbits_any16 (b : Nat) (hb : b < 18446744073709551616) (w : World) (hL : Laid w) :
    Calls Tryz.prog 27 #[.string ⟨(Fl.txt b).toArray⟩, .int .i64 16] w fun x w' => x = .returned (.tuple #[.int .u64 ((Fl.bitsR Fl.half b).1 : Int), .bool (Fl.bitsR Fl.half b).2, .int .i64 0]) ∧ Below w.heap.size w w' := by
  obtain ⟨d1, d2, d3, d4, d5⟩ := Fl.half_is
  unfold Fl.bitsR
  rw [d1, d2, d5]
  by_cases h1 : 9218868437227405312 < b % 9223372036854775808
  · rw [if_pos h1]
    exact binbits_nan16 b h1 w hL
  · rw [if_neg h1]
    by_cases h2 : b % 9223372036854775808 = 9218868437227405312
    · rw [if_pos h2]
      have h := binbits_spec16 b hb (.inr h2) w hL
      rw [if_neg (show ¬ b % 9223372036854775808 = 0 by omega)] at h
      exact h
    · rw [if_neg h2]
      by_cases h3 : b % 9223372036854775808 = 0
      · rw [if_pos h3]
        have h := binbits_spec16 b hb (.inl h3) w hL
        rw [if_pos h3, Nat.add_zero] at h
        exact h
      · rw [if_neg h3]
        exact binbits16 b hb w (by omega) (by omega) hL
end Go.Proofs.YtjapgpmoojfhnaaGreatDoor

namespace Go.Proofs.YtjapgpmoojfhnaaGreatDoor
open Go.RowKit Go.Lib

end Go.Proofs.YtjapgpmoojfhnaaGreatDoor

namespace Go.Proofs.YtjapgpmoojfhnaaGreatDoor
open Go.RowKit Go.Lib

end Go.Proofs.YtjapgpmoojfhnaaGreatDoor
