/- The law BinaryShortest returns true for every word. -/
import Derived.Test.YtjapgpmoojfhnaaGreatDoorB18
import Derived.Test.YtjapgpmoojfhnaaGreatDoorB23
namespace Go.Proofs.YtjapgpmoojfhnaaGreatDoor
open Go.RowKit Go.Lib

/-- binary.Nearest at the shortest decimal of a float. -/
theorem nearest_short (b : Nat) (B : Nat × Nat) (hb : b < 18446744073709551616) (h0 : 0 < b % 9223372036854775808) (hr : b % 9223372036854775808 < 9218868437227405312) {c z : Nat} (h : Fl.Short (b % 9223372036854775808) c z) :
    ∃ ex : Bool, ∀ w, Laid2 w B → Calls Tryz.prog 20 #[.string ⟨(Fl.expB (decide (9223372036854775808 ≤ b)) c (Fl.sX (b % 9223372036854775808) + z)).toArray⟩] w fun x w' => x = .returned (.tuple #[.string ⟨(Fl.txt b).toArray⟩, .bool ex, .int .i64 0]) ∧ Below w.heap.size w w' := by
  obtain ⟨c2, z2, hx⟩ := Fl.exp10_ex h0
  obtain ⟨r1, r2⟩ := h.range h0 hr
  obtain ⟨hT, hl17⟩ := h.txt h0 hr (decide (9223372036854775808 ≤ b))
  have hw := word_split hb
  have hc : c ≠ 0 := by have := h.pos; omega
  have hl : (decDigits c).length ≤ 400 := by rw [Fl.dec_length hc, ← List.length_reverse]; omega
  refine ⟨_, fun w hL => nearest_of _ ⟨(Fl.expB (decide (9223372036854775808 ≤ b)) c2 (Fl.xE (b % 9223372036854775808) + z2)).toArray⟩ b hb (by omega) B (fun W' hW' => ?_) (fun W' hW' => ?_) (fun W' hW' => exact47_num b hb h0 hr hx W' hW') w hL⟩
  · have hi := Dc.itoa_len (n := Fl.sX (b % 9223372036854775808) + z) (by omega) (by omega)
    have hv := valid_any ⟨(Fl.expB (decide (9223372036854775808 ≤ b)) c (Fl.sX (b % 9223372036854775808) + z)).toArray⟩ W' (by
      rw [str_size]
      unfold Fl.expB Dc.sgnB
      rw [List.length_append, List.length_append, List.length_cons]
      split <;> simp <;> omega) hW'
    rw [show (⟨(Fl.expB (decide (9223372036854775808 ≤ b)) c (Fl.sX (b % 9223372036854775808) + z)).toArray⟩ : ByteArray).data.toList = Fl.expB (decide (9223372036854775808 ≤ b)) c (Fl.sX (b % 9223372036854775808) + z) from rfl, readP_exp h.odd hl (by omega) (by omega)] at hv
    exact hv
  · have hp := parsefloat_short hT (Fl.truncN_low (by omega)) (by omega) r1 r2 (by rw [Fl.mant_short (by omega), Fl.num_digL]; exact h.near h0 hr) hr W' B hW'.pow hW'.opt hW'.tab hW'.size
    rw [← hw] at hp
    exact hp
set_option maxHeartbeats 1000000 in
set_option maxRecDepth 100000 in
theorem shortest36_kind (b : Nat) (hb : b < 18446744073709551616) (hr : 9218868437227405312 ≤ b % 9223372036854775808) (w : World) (hL : Laid w) :
    Calls Tryz.prog 36 #[.string ⟨(Fl.txt b).toArray⟩] w fun x w' => x = .returned (.tuple #[.string ⟨#[]⟩, .int .i64 10]) ∧ Below w.heap.size w w' := by
  have FB := Lib.hid (fun W hW => finite_kind b hb hr W hW)
  have HL := Lib.hid hL
  clear hL hb hr
  go_enter Tryz.func36, Tryz.ntmps36
  go_wp2_with fail
  refine (FB.out _ HL.out).mono ?_
  rintro x w1 ⟨rfl, hb1⟩
  go_wp2_with fail
  go_ret2
  exact ⟨rfl, hb1⟩
set_option maxHeartbeats 1000000 in
set_option maxRecDepth 100000 in
theorem shortest36_zero (b : Nat) (hb : b < 18446744073709551616) (h0 : b % 9223372036854775808 = 0) (w : World) (hL : Laid w) :
    Calls Tryz.prog 36 #[.string ⟨(Fl.txt b).toArray⟩] w fun x w' => x = .returned (if 9223372036854775808 ≤ b then .tuple #[.string ⟨#[]⟩, .int .i64 10] else .tuple #[.string ⟨#[48, 101, 48]⟩, .int .i64 0]) ∧ Below w.heap.size w w' := by
  have FI := Lib.hid (fun W hW => finite_num b hb (by omega) W hW)
  have o2 := ord_zero hb (by omega)
  rw [decide_eq_true h0] at o2
  have SB := fun W => signbit_any b W hb
  have HL := Lib.hid hL
  by_cases hs : 9223372036854775808 ≤ b
  · rw [if_pos hs]
    rw [decide_eq_true hs] at SB
    have SB := Lib.hid SB
    clear hL hb h0 hs
    go_enter Tryz.func36, Tryz.ntmps36
    go_wp2_with fail
    refine (FI.out _ HL.out).mono ?_
    rintro x w1 ⟨rfl, hb1⟩
    go_wp2_with fail
    refine (SB.out _).mono ?_
    rintro x w2 ⟨rfl, rfl⟩
    go_wp2_with fail
    go_ret2
    exact ⟨rfl, hb1⟩
  · rw [if_neg hs]
    rw [decide_eq_false hs] at SB
    have SB := Lib.hid SB
    clear hL hb h0 hs
    go_enter Tryz.func36, Tryz.ntmps36
    go_wp2_with fail
    refine (FI.out _ HL.out).mono ?_
    rintro x w1 ⟨rfl, hb1⟩
    go_wp2_with fail
    refine (SB.out _).mono ?_
    rintro x w2 ⟨rfl, rfl⟩
    go_wp2_with fail
    go_ret2
    exact ⟨rfl, hb1⟩
set_option maxHeartbeats 4000000 in
set_option maxRecDepth 100000 in
/-- Where Shortest refuses. -/
theorem law12_no (b : Nat) (hb : b < 18446744073709551616) (hk : ∃ (k : Int) (n : Bool) (m e : Int), (0 < k ∨ (k = 0 ∧ m = 0 ∧ n = true)) ∧ Fl.refF b = .agg #[.int .i64 k, .bool n, .int .u64 m, .int .i64 e])
    (SH : ∀ W, Laid W → Calls Tryz.prog 36 #[.string ⟨(Fl.txt b).toArray⟩] W fun x w' => x = .returned (.tuple #[.string ⟨#[]⟩, .int .i64 10]) ∧ Below W.heap.size W w') (w : World) (hL : Laid w) :
    Calls Tryz.prog 12 #[.int .u64 (b : Int)] w fun x w' => x = .returned (.bool true) ∧ Below w.heap.size w w' := by
  obtain ⟨k, ng, M, e, hk, hf⟩ := hk
  have FB := fun W => fromBits64 b hb W
  have TX := fun W => reftext_any b W
  rw [hf] at FB TX
  obtain ⟨SF, hSF⟩ : ∃ S : ByteArray, (⟨(Fl.txt b).toArray⟩ : ByteArray) = S := ⟨_, rfl⟩
  rw [hSF] at TX SH
  have FB := Lib.hid FB
  have TX := Lib.hid TX
  have SH := Lib.hid SH
  have AW := Lib.hid (fun W hW => awake_any W hW)
  have HL := Lib.hid hL
  clear hL hb hf hSF
  rcases hk with hk | ⟨rfl, rfl, rfl⟩
  · have ck : decide (0 < k) = true := decide_eq_true hk
    clear hk
    go_enter Tryz.func12, Tryz.ntmps12
    go_wp2_with fail
    refine (FB.out _).mono ?_
    rintro y w1 ⟨rfl, hb1⟩
    go_upto_region 2 with fail
    obtain ⟨w2, X, hw2, hX, hb2, hcells⟩ := box_float k ng M e w1
    rw [hw2, hX]
    have hb2 := b_trans hb1 hb2
    have HC := Lib.hid hcells
    have hx := hcells w2 (Below.refl _ _)
    clear hw2 hX hcells hb1
    obtain ⟨x0, x1, x2, x3, _⟩ := hx
    go_wp2_with fail
    refine (TX.out _).mono ?_
    rintro y w3 ⟨rfl, hb3⟩
    go_wp2_with fail
    refine (SH.out _ (HL.out.on (b_trans hb2 hb3))).mono ?_
    rintro y w4 ⟨rfl, hb4⟩
    have hb4' := b_trans hb3 hb4
    clear x0 x1 x2 x3
    obtain ⟨x0, x1, x2, x3, _⟩ := HC.out w4 hb4'
    have hbz := b_trans hb2 hb4'
    go_wp2_with fail
    refine (AW.out _ (HL.out.on hbz)).mono ?_
    rintro y w5 ⟨rfl, hb5⟩
    go_wp2_with fail
    go_ret
    exact ⟨rfl, b_trans hbz hb5⟩
  · go_enter Tryz.func12, Tryz.ntmps12
    go_wp2_with fail
    refine (FB.out _).mono ?_
    rintro y w1 ⟨rfl, hb1⟩
    go_upto_region 2 with fail
    obtain ⟨w2, X, hw2, hX, hb2, hcells⟩ := box_float 0 true 0 e w1
    rw [hw2, hX]
    have hb2 := b_trans hb1 hb2
    have HC := Lib.hid hcells
    have hx := hcells w2 (Below.refl _ _)
    clear hw2 hX hcells hb1
    obtain ⟨x0, x1, x2, x3, _⟩ := hx
    go_wp2_with fail
    refine (TX.out _).mono ?_
    rintro y w3 ⟨rfl, hb3⟩
    go_wp2_with fail
    refine (SH.out _ (HL.out.on (b_trans hb2 hb3))).mono ?_
    rintro y w4 ⟨rfl, hb4⟩
    have hb4' := b_trans hb3 hb4
    clear x0 x1 x2 x3
    obtain ⟨x0, x1, x2, x3, _⟩ := HC.out w4 hb4'
    have hbz := b_trans hb2 hb4'
    go_wp2_with fail
    refine (AW.out _ (HL.out.on hbz)).mono ?_
    rintro y w5 ⟨rfl, hb5⟩
    go_wp2_with fail
    go_ret
    exact ⟨rfl, b_trans hbz hb5⟩
set_option maxHeartbeats 4000000 in
set_option maxRecDepth 100000 in
/-- Where Shortest answers: what its parts say. -/
theorem law12_core (b : Nat) (B : Nat × Nat) (g : Bool) (M : Nat) (x : Int) (SF SD : ByteArray) (ex : Bool) (hb : b < 18446744073709551616)
    (hf : Fl.refF b = .agg #[.int .i64 0, .bool g, .int .u64 (M : Int), .int .i64 x]) (hg : M = 0 → g = false)
    (hSF : (⟨(Fl.txt b).toArray⟩ : ByteArray) = SF)
    (SH : ∀ W, Laid W → Calls Tryz.prog 36 #[.string SF] W fun x w' => x = .returned (.tuple #[.string SD, .int .i64 0]) ∧ Below W.heap.size W w')
    (RS : 0 < M → ∃ V, (∀ W, Calls Tryz.prog 43 #[.agg #[.int .i64 0, .bool g, .int .u64 (M : Int), .int .i64 x]] W fun x w' => x = .returned V ∧ Below W.heap.size W w') ∧ ∀ W, Calls Tryz.prog 21 #[V] W fun x w' => x = .returned (.string SD) ∧ Below W.heap.size W w')
    (hZ : M = 0 → SD = ⟨#[48, 101, 48]⟩) (hSD : SD ≠ ⟨#[]⟩)
    (NE : ∀ W, Laid2 W B → Calls Tryz.prog 20 #[.string SD] W fun x w' => x = .returned (.tuple #[.string SF, .bool ex, .int .i64 0]) ∧ Below W.heap.size W w') (w : World) (hL : Laid2 w B) :
    Calls Tryz.prog 12 #[.int .u64 (b : Int)] w fun x w' => x = .returned (.bool true) ∧ Below w.heap.size w w' := by
  have FB := fun W => fromBits64 b hb W
  have TX := fun W => reftext_any b W
  rw [hf] at FB TX
  rw [hSF] at TX
  have FB := Lib.hid FB
  have TX := Lib.hid TX
  have SH := Lib.hid SH
  have NE := Lib.hid NE
  have RS := Lib.hid RS
  have AW := Lib.hid (fun W hW => awake_any W hW)
  have HL := Lib.hid hL
  have HZ := Lib.hid hZ
  have HSD := Lib.hid hSD
  clear hL hb hf hSF hZ hSD
  by_cases hM : M = 0
  · obtain rfl := hg hM
    obtain rfl := HZ.out hM
    subst hM
    clear hg
    go_enter Tryz.func12, Tryz.ntmps12
    go_wp2_with fail
    refine (FB.out _).mono ?_
    rintro y w1 ⟨rfl, hb1⟩
    go_upto_region 2 with fail
    obtain ⟨w2, X, hw2, hX, hb2, hcells⟩ := box_float 0 false 0 x w1
    rw [hw2, hX]
    have hb2 := b_trans hb1 hb2
    have HC := Lib.hid hcells
    have hx := hcells w2 (Below.refl _ _)
    clear hw2 hX hcells hb1
    obtain ⟨x0, x1, x2, x3, _⟩ := hx
    go_wp2_with fail
    refine (TX.out _).mono ?_
    rintro y w3 ⟨rfl, hb3⟩
    go_wp2_with fail
    refine (SH.out _ (HL.out.laid.on (b_trans hb2 hb3))).mono ?_
    rintro y w4 ⟨rfl, hb4⟩
    have hb4' := b_trans hb3 hb4
    clear x0 x1 x2 x3
    obtain ⟨x0, x1, x2, x3, _⟩ := HC.out w4 hb4'
    have hbz := b_trans hb2 hb4'
    go_wp2_with fail
    refine (NE.out _ (HL.out.on hbz)).mono ?_
    rintro y w5 ⟨rfl, hb5⟩
    have hb5' := b_trans hb4' hb5
    have hbz := b_trans hb2 hb5'
    clear x0 x1 x2 x3
    obtain ⟨x0, x1, x2, x3, _⟩ := HC.out w5 hb5'
    go_wp2_with fail
    refine (TX.out _).mono ?_
    rintro y w6 ⟨rfl, hb6⟩
    have hbz := b_trans hbz hb6
    go_wp2_with fail
    refine (AW.out _ (HL.out.laid.on hbz)).mono ?_
    rintro y w7 ⟨rfl, hb7⟩
    go_wp2_with fail
    go_ret
    exact ⟨rfl, b_trans hbz hb7⟩
  · have hM0 : 0 < M := Nat.pos_of_ne_zero hM
    obtain ⟨V, R1, R2⟩ := RS.out hM0
    have R1 := Lib.hid R1
    have R2 := Lib.hid R2
    have cz : ((M : Int) == 0) = false := by rw [beq_eq_false_iff_ne]; omega
    have cp : decide (0 < (M : Int)) = true := decide_eq_true (by omega)
    have cp' : decide (0 < M) = true := decide_eq_true hM0
    clear hg hM hM0 HZ RS
    go_enter Tryz.func12, Tryz.ntmps12
    go_wp2_with fail
    refine (FB.out _).mono ?_
    rintro y w1 ⟨rfl, hb1⟩
    go_upto_region 2 with fail
    obtain ⟨w2, X, hw2, hX, hb2, hcells⟩ := box_float 0 g (M : Int) x w1
    rw [hw2, hX]
    have hb2 := b_trans hb1 hb2
    have HC := Lib.hid hcells
    have hx := hcells w2 (Below.refl _ _)
    clear hw2 hX hcells hb1
    obtain ⟨x0, x1, x2, x3, _⟩ := hx
    go_wp2_with fail
    refine (TX.out _).mono ?_
    rintro y w3 ⟨rfl, hb3⟩
    go_wp2_with fail
    refine (SH.out _ (HL.out.laid.on (b_trans hb2 hb3))).mono ?_
    rintro y w4 ⟨rfl, hb4⟩
    have hb4' := b_trans hb3 hb4
    clear x0 x1 x2 x3
    obtain ⟨x0, x1, x2, x3, _⟩ := HC.out w4 hb4'
    go_wp2_with fail
    refine (R1.out _).mono ?_
    rintro y wA ⟨rfl, hbA⟩
    have hb4' := b_trans hb4' hbA
    go_wp2_with fail
    refine (R2.out _).mono ?_
    rintro y wB ⟨rfl, hbB⟩
    have hb4' := b_trans hb4' hbB
    have hbz := b_trans hb2 hb4'
    clear x0 x1 x2 x3
    obtain ⟨x0, x1, x2, x3, _⟩ := HC.out wB hb4'
    go_wp2_with fail
    refine (NE.out _ (HL.out.on hbz)).mono ?_
    rintro y w5 ⟨rfl, hb5⟩
    have hb5' := b_trans hb4' hb5
    have hbz := b_trans hb2 hb5'
    clear x0 x1 x2 x3
    obtain ⟨x0, x1, x2, x3, _⟩ := HC.out w5 hb5'
    go_wp2_with fail
    refine (TX.out _).mono ?_
    rintro y w6 ⟨rfl, hb6⟩
    have hbz := b_trans hbz hb6
    go_wp2_with fail
    refine (AW.out _ (HL.out.laid.on hbz)).mono ?_
    rintro y w7 ⟨rfl, hb7⟩
    go_wp2_with fail
    go_ret
    exact ⟨rfl, b_trans hbz hb7⟩
theorem law12 (b : Nat) (hb : b < 18446744073709551616) (w : World) (B : Nat × Nat) (hL : Laid2 w B) :
    Calls Tryz.prog 12 #[.int .u64 (b : Int)] w fun x w' => x = .returned (.bool true) ∧ Below w.heap.size w w' := by
  by_cases hr : b % 9223372036854775808 < 9218868437227405312
  · by_cases h0 : b % 9223372036854775808 = 0
    · by_cases hs : 9223372036854775808 ≤ b
      · refine law12_no b hb ⟨0, true, 0, 0, Or.inr ⟨rfl, rfl, rfl⟩, ?_⟩ (fun W hW => ?_) w hL.laid
        · rw [refF_zero b h0, decide_eq_true hs]
        · have h := shortest36_zero b hb h0 W hW
          rw [if_pos hs] at h
          exact h
      · have hb0 : b = 0 := by omega
        subst hb0
        refine law12_core 0 B false 0 0 _ ⟨#[48, 101, 48]⟩ true (by decide) (refF_zero 0 rfl) (fun _ => rfl) rfl (fun W hW => ?_) (fun h => absurd h (by decide)) (fun _ => rfl) (by decide) (fun W hW => ?_) w hL
        · have h := shortest36_zero 0 (by decide) (by decide) W hW
          rw [if_neg (by decide)] at h
          exact h
        · have hx := nearest_of ⟨#[48, 101, 48]⟩ ⟨#[48, 101, 48]⟩ 0 (by decide) (by decide) B (fun W' hW' => ?_) (fun W' hW' => ?_) (fun W' hW' => ?_) W hW
          · rw [show ∀ l : List UInt8, (l == l) = true from fun l => by simp] at hx
            exact hx
          · have hv := valid_any ⟨#[48, 101, 48]⟩ W' (by decide) hW'
            rw [show (⟨#[48, 101, 48]⟩ : ByteArray).data.toList = [48, 101, 48] from rfl, readP_nought] at hv
            exact hv
          · refine (parsefloat_nought W' hW'.opt).mono ?_
            rintro x w' ⟨rfl, rfl⟩
            exact ⟨rfl, Below.refl _ _⟩
          · refine (exact47_zero 0 (by decide) (by decide) W').mono ?_
            rintro x w' ⟨rfl, rfl⟩
            exact ⟨rfl, Below.refl _ _⟩
    · have h0' : 0 < b % 9223372036854775808 := by omega
      obtain ⟨c, z, h⟩ := Fl.short_ex h0'
      obtain ⟨r1, r2⟩ := h.range h0' hr
      obtain ⟨hT, hl17⟩ := h.txt h0' hr (decide (9223372036854775808 ≤ b))
      have hc : c ≠ 0 := by have := h.pos; omega
      have hl : (decDigits c).length ≤ 400 := by rw [Fl.dec_length hc, ← List.length_reverse]; omega
      obtain ⟨_, _, m1, m2⟩ := Fl.om_spec h0'
      obtain ⟨ex, hN⟩ := nearest_short b B hb h0' hr h
      refine law12_core b B _ _ _ _ ⟨(Fl.expB (decide (9223372036854775808 ≤ b)) c (Fl.sX (b % 9223372036854775808) + z)).toArray⟩ ex hb (refF_num b h0' hr) (fun h => absurd h (by omega)) rfl (fun W hW => shortest36_any b hb h0' hr h W hW) (fun _ => ⟨_, fun W => refshort43 _ _ h0' hr h W, fun W => dectext21 _ c _ W (by omega) ⟨by omega, by omega⟩⟩) (fun h => absurd h (by omega)) ?_ hN w hL
      intro hE
      have hE2 := congrArg ByteArray.size hE
      rw [str_size] at hE2
      unfold Fl.expB Dc.sgnB at hE2
      rw [List.length_append, List.length_append, List.length_cons] at hE2
      have : (⟨#[]⟩ : ByteArray).size = 0 := rfl
      omega
  · obtain ⟨k, n, m, e, hk, hf⟩ := refF_kind b (by omega)
    exact law12_no b hb ⟨k, n, m, e, Or.inl hk, hf⟩ (fun W hW => shortest36_kind b hb (by omega) W hW) w hL.laid
end Go.Proofs.YtjapgpmoojfhnaaGreatDoor
