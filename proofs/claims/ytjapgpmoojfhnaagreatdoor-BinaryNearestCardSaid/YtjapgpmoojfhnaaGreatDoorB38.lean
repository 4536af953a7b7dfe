/- The law BinaryMonotone, plainly: of two decimals the smaller one is not rounded to a greater float. binary.Nearest at a decimal: the nearest number, and whether it is the decimal's own value. The reference's OfDecimal, plainly: which strings it takes. The reference's OfDecimal, walked. -/
import Derived.Test.YtjapgpmoojfhnaaGreatDoorB14
import Derived.Test.YtjapgpmoojfhnaaGreatDoorB19
import Derived.Test.YtjapgpmoojfhnaaGreatDoorB36
import Derived.Test.YtjapgpmoojfhnaaGreatDoorB37
set_option maxHeartbeats 16000000
set_option maxRecDepth 100000
set_option linter.unusedSimpArgs false
set_option linter.unusedVariables false
namespace Go.Proofs.YtjapgpmoojfhnaaGreatDoor
open Go.RowKit Go.Lib
theorem DecT.size {t : List UInt8} {g : Bool} {c : Nat} {E : Int} (h : DecT t g c E) : (⟨t.toArray⟩ : ByteArray).size ≤ 1000 := by
 cases h with
 | zero => decide
 | num _ _ _ hc hl h0 h1 => exact Fl.expB_size g hl h0 h1
namespace Fl
theorem dec_inj {a b : Nat} (ha : a ≠ 0) (hb : b ≠ 0) (h : decDigits a = decDigits b) : a = b := by
 rw [dec_is ha, dec_is hb] at h
 have e : (digL a).reverse = (digL b).reverse := Dc.digB_inj (fun x hx => digL_digs ha x hx) (fun x hx => digL_digs hb x hx) h
 have := congrArg num e
 rwa [num_digL, num_digL] at this
theorem expB_inj {g : Bool} {c c' : Nat} {E E' : Int} (hc : c ≠ 0) (hc' : c' ≠ 0) (h0 : -3000 ≤ E) (h1 : E ≤ 3000) (h2 : -3000 ≤ E') (h3 : E' ≤ 3000) (h : expB g c E = expB g c' E') : c = c' ∧ E = E' := by
 unfold expB at h
 rw [List.append_assoc, List.append_assoc] at h
 have e := List.append_cancel_left h
 have a := cut_exp c E
 rw [e, cut_exp c' E'] at a
 simp only [Prod.mk.injEq, and_true] at a
 refine ⟨dec_inj hc hc' a.1.symm, ?_⟩
 have e1 := Dc.atoi_itoa (n := E) (by omega) (by omega)
 rw [← a.2, Dc.atoi_itoa (by omega) (by omega)] at e1
 cases e1
 rfl
theorem expB_ne {g : Bool} {c : Nat} {E : Int} (hc : c ≠ 0) : expB g c E ≠ [48, 101, 48] := by
 intro h
 obtain ⟨x, l, h1, h2⟩ := digL_head hc
 have hx : x < 10 := digL_digs hc x (by rw [h1]; simp)
 unfold expB at h
 rw [dec_is hc, h1] at h
 cases g with
 | true =>
   have := congrArg List.head? h
   simp [Dc.sgnB] at this
 | false =>
   have h3 : some (UInt8.ofNat (48 + x)) = some (48 : UInt8) := congrArg List.head? h
   have := congrArg UInt8.toNat (Option.some.inj h3)
   rw [Dc.dig_toNat hx] at this
   have e : (48 : UInt8).toNat = 48 := rfl
   omega
end Fl
theorem toList_ne {a b : List UInt8} (h : a ≠ b) : ((⟨a.toArray⟩ : ByteArray).toList == (⟨b.toArray⟩ : ByteArray).toList) = false := by
 rw [Lib.toList_data, Lib.toList_data, beq_eq_false_iff_ne]
 simpa using h
theorem exact47_at {t : List UInt8} {g : Bool} {c : Nat} {E : Int} (h : DecT t g c E) {r : Nat} (near : Fl.Near (Fl.vN c E) (Fl.vD E) r) (hr : r < 9218868437227405312) :
 ∃ D0 : ByteArray, (∀ W, Laid W → Calls Tryz.prog 47 #[.float .f64 (Ieee.double.word g r)] W fun x w' => x = .returned (.string D0) ∧ Below W.heap.size W w') ∧ ((⟨t.toArray⟩ : ByteArray).toList == D0.toList) = decide (Fl.vN c E = Fl.val Ieee.double r * Fl.vD E) := by
 obtain ⟨a1, a2, a3⟩ := Fl.word_mod g near.1
 by_cases h0 : r = 0
 · subst h0
   refine ⟨⟨([48, 101, 48] : List UInt8).toArray⟩, fun W _ => (exact47_zero _ a2 a1 W).mono ?_, ?_⟩
   · rintro x w' ⟨rfl, rfl⟩
     exact ⟨rfl, Below.refl _ _⟩
   · rw [Fl.val_zero, Nat.zero_mul]
     cases h with
     | zero => rw [decide_eq_true (vN_nil 0), beq_iff_eq]
     | num _ _ _ hc hl h1 h2 =>
       rw [toList_ne (Fl.expB_ne (by omega)), decide_eq_false]
       intro e
       rw [← vN_nil E] at e
       have := Fl.vN_inj e
       omega
 · obtain ⟨c', z, hx⟩ := Fl.exp10_ex (r := r) (by omega)
   refine ⟨_, fun W hW => exact47_num _ a2 (by rw [a1]; omega) (by rw [a1]; exact hr) (by rw [a1]; exact hx) W hW, ?_⟩
   rw [a1, a3]
   cases h with
   | zero => exact absurd (Fl.near_unique (Fl.vD_pos _) near (near_nil 0)) h0
   | num _ _ _ hc hl h1 h2 =>
     have hv := hx.value (by omega) hr
     have hp := hx.pos
     obtain ⟨n, n1, n2, n3⟩ := Fl.dec_bounds (c := c') (by omega)
     obtain ⟨p1, p2, p3, p4⟩ := hx.place (by omega) hr n2 n3
     have hc10 : c' % 10 ≠ 0 := hx.2
     by_cases he : Fl.vN c E = Fl.val Ieee.double r * Fl.vD E
     · rw [decide_eq_true he]
       obtain ⟨rfl, e2⟩ := Fl.canon_eq (E := E) (E' := Fl.xE r + (z : Nat)) hc hc10 (by rw [he, hv]; simp only [Nat.mul_assoc, Nat.mul_comm])
       rw [e2, beq_iff_eq]
     · rw [decide_eq_false he]
       refine toList_ne fun hh => he ?_
       obtain ⟨rfl, e2⟩ := Fl.expB_inj (by omega) (by omega) (by omega) (by omega) (by omega) (by omega) hh
       rw [e2]
       exact hv
theorem nearest_gen2 (d : ByteArray) (F : Nat) (hF : F < 18446744073709551616) (q : Bool) (hi0 : F % 9223372036854775808 = 9218868437227405312 → q = false) (B C D : Nat × Nat)
 (VA : ∀ W, Laid W → Calls Tryz.prog 54 #[.string d] W fun x w' => x = .returned (.bool true) ∧ Below W.heap.size W w')
 (PF : ∀ W, Laid4 W B C D → Calls Tryz.prog 55 #[.string d, .int .i64 64] W fun x w' => (∃ e, x = .returned (.tuple #[.float .f64 F, e])) ∧ Below W.heap.size W w')
 (EX : F % 9223372036854775808 ≠ 9218868437227405312 → ∃ D0 : ByteArray, (∀ W, Laid W → Calls Tryz.prog 47 #[.float .f64 F] W fun x w' => x = .returned (.string D0) ∧ Below W.heap.size W w') ∧ (d.toList == D0.toList) = q) (w : World) (hL : Laid4 w B C D) :
 Calls Tryz.prog 20 #[.string d] w fun x w' => x = .returned (.tuple #[.string ⟨(Fl.txt F).toArray⟩, .bool q, .int .i64 0]) ∧ Below w.heap.size w w' := by
 have II := fun W => isinf_any F W hF
 have TX := Lib.hid (fun W hW => text_any F hF W hW)
 obtain ⟨T, hT⟩ : ∃ T : ByteArray, (⟨(Fl.txt F).toArray⟩ : ByteArray) = T := ⟨_, rfl⟩
 rw [hT]
 have HTT := Lib.hid hT
 have VA := Lib.hid VA
 have PF := Lib.hid PF
 have HL := Lib.hid hL
 by_cases hi : F % 9223372036854775808 = 9218868437227405312
 · have i0 : (F % 9223372036854775808 == 9218868437227405312) = true := by rw [beq_iff_eq]; exact hi
   rw [i0] at II
   have II := Lib.hid II
   obtain rfl := hi0 hi
   clear hL hF i0 hi hT hi0 EX
   go_enter Tryz.func20, Tryz.ntmps20
   go_wp2_with fail
   refine (VA.out _ HL.out.l2.laid).mono ?_
   rintro x w1 ⟨rfl, hb1⟩
   go_wp2_with fail
   refine (PF.out _ (HL.out.on hb1)).mono ?_
   rintro x w2 ⟨⟨e, rfl⟩, hb2⟩
   have hb2 := b_trans hb1 hb2
   go_wp2_with fail
   refine (II.out _).mono ?_
   rintro x w3 ⟨rfl, rfl⟩
   go_wp2_with fail
   refine (TX.out _ (HL.out.on hb2).l2.laid).mono ?_
   rintro x w4 ⟨rfl, hb4⟩
   have hb4 := b_trans hb2 hb4
   rw [HTT.out]
   go_wp2_with fail
   refine bodyPost_ret (v := .tuple #[.string T, .bool false, .int .i64 0]) (by simp [results, Tryz.results20, go_sem]) rfl ?_
   exact ⟨rfl, hb4⟩
 · have i0 : (F % 9223372036854775808 == 9218868437227405312) = false := by rw [beq_eq_false_iff_ne]; exact hi
   rw [i0] at II
   have II := Lib.hid II
   obtain ⟨D0, EX, hq⟩ := EX hi
   have EX := Lib.hid EX
   have HQ := Lib.hid hq
   clear hL hF i0 hi hT hi0 hq
   go_enter Tryz.func20, Tryz.ntmps20
   go_wp2_with fail
   refine (VA.out _ HL.out.l2.laid).mono ?_
   rintro x w1 ⟨rfl, hb1⟩
   go_wp2_with fail
   refine (PF.out _ (HL.out.on hb1)).mono ?_
   rintro x w2 ⟨⟨e, rfl⟩, hb2⟩
   have hb2 := b_trans hb1 hb2
   go_wp2_with fail
   refine (II.out _).mono ?_
   rintro x w3 ⟨rfl, rfl⟩
   go_wp2_with fail
   refine (TX.out _ (HL.out.on hb2).l2.laid).mono ?_
   rintro x w4 ⟨rfl, hb4⟩
   have hb4 := b_trans hb2 hb4
   rw [HTT.out]
   go_wp2_with fail
   refine (EX.out _ (HL.out.on hb4).l2.laid).mono ?_
   rintro x w5 ⟨rfl, hb5⟩
   have hb5 := b_trans hb4 hb5
   go_wp2_with fail
   refine bodyPost_ret (v := .tuple #[.string T, .bool (d.toList == D0.toList), .int .i64 0]) (by simp [results, Tryz.results20, go_sem]) rfl ?_
   exact ⟨by rw [HQ.out], hb5⟩
theorem nearest_ex {t : List UInt8} {g : Bool} {c : Nat} {E : Int} (h : DecT t g c E) {r : Nat} (near : Fl.Near (Fl.vN c E) (Fl.vD E) r) (w : World) (B C D : Nat × Nat) (hL : Laid4 w B C D) :
 Calls Tryz.prog 20 #[.string ⟨t.toArray⟩] w fun x w' => x = .returned (.tuple #[.string ⟨(Fl.txt (Ieee.double.word g r)).toArray⟩, .bool (decide (r < 9218868437227405312 ∧ Fl.vN c E = Fl.val Ieee.double r * Fl.vD E)), .int .i64 0]) ∧ Below w.heap.size w w' := by
 obtain ⟨a1, a2, _⟩ := Fl.word_mod g near.1
 refine nearest_gen2 _ _ a2 _ (fun hi => ?_) B C D ?_ ?_ (fun hi => ?_) w hL
 · rw [a1] at hi
   exact decide_eq_false fun hh => by have := hh.1; omega
 · intro W hW
   cases h with
   | zero =>
     have := valid_any ⟨#[48, 101, 48]⟩ W (by decide) hW
     rwa [show (Dc.readP (⟨#[48, 101, 48]⟩ : ByteArray).data.toList).isSome = true from readP_nought] at this
   | num _ _ _ hc hl h0 h1 =>
     have := valid_any ⟨(Fl.expB g c E).toArray⟩ W (Nat.le_trans (Fl.expB_size g hl h0 h1) (by decide)) hW
     rwa [show (Dc.readP (⟨(Fl.expB g c E).toArray⟩ : ByteArray).data.toList).isSome = true from readP_exp hc hl h0 h1 g] at this
 · intro W hW
   cases h with
   | zero =>
     have h0 := near_nil 0
     obtain rfl := Fl.near_unique (Fl.vD_pos _) near h0
     refine (parsefloat_nought W hW.l2.opt).mono ?_
     rintro x w' ⟨rfl, rfl⟩
     exact ⟨⟨_, rfl⟩, Below.refl _ _⟩
   | num _ _ _ hc hl h0 h1 =>
     have hd := Fl.exp_txt g hc hl h0 h1
     refine parsefloat_any hd (by rw [Fl.num_digL]; exact hc) (by rw [Fl.num_digL]; exact near) (Fl.expB_size g hl h0 h1) W B C D hW.pf hW.l2.laid
 · rw [a1] at hi
   have hlt : r < 9218868437227405312 := by have := near.1; omega
   obtain ⟨D0, e1, e2⟩ := exact47_at h near hlt
   refine ⟨D0, e1, e2.trans (decide_eq_decide.2 ⟨fun hh => ⟨hlt, hh⟩, fun hh => hh.2⟩)⟩
namespace Fl
structure GoodD (A B : List UInt8) : Prop where
 va : vB A = true
 vb : vB B = true
 bl : B.length ≤ 18
 lo : -2000 ≤ numI B
 hi : numI B ≤ 2000
 z0 : A = [48] → numI B = 0
 last : A ≠ [48] → A.getLast? ≠ some 48
theorem split_e : ∀ l : List UInt8, (∀ b ∈ l, b ≠ 101) ∨ ∃ A B, l = A ++ 101 :: B ∧ ∀ b ∈ A, b ≠ 101
 | [] => .inl fun b hb => by cases hb
 | x :: l => by
   by_cases hx : x = 101
   · exact .inr ⟨[], l, by rw [hx]; rfl, fun b hb => by cases hb⟩
   · rcases split_e l with h | ⟨A, B, rfl, h⟩
     · left
       intro b hb
       rcases List.mem_cons.1 hb with rfl | hb
       · exact hx
       · exact h b hb
     · right
       refine ⟨x :: A, B, rfl, fun b hb => ?_⟩
       rcases List.mem_cons.1 hb with rfl | hb
       · exact hx
       · exact h b hb
theorem split_one : ∀ (A A' B B' : List UInt8), A ++ 101 :: B = A' ++ 101 :: B' → (∀ b ∈ A, b ≠ 101) → (∀ b ∈ A', b ≠ 101) → A = A' ∧ B = B'
 | [], [], B, B', h, _, _ => ⟨rfl, (List.cons.inj h).2⟩
 | [], y :: A', B, B', h, _, h' => absurd (List.cons.inj h).1.symm (h' y (by simp))
 | x :: A, [], B, B', h, h', _ => absurd (List.cons.inj h).1 (h' x (by simp))
 | x :: A, y :: A', B, B', h, h1, h2 => by
   obtain ⟨e1, e2⟩ := List.cons.inj h
   obtain ⟨e3, e4⟩ := split_one A A' B B' e2 (fun b hb => h1 b (by simp [hb])) (fun b hb => h2 b (by simp [hb]))
   exact ⟨by rw [e1, e3], e4⟩
theorem itoa_zero : itoa 0 = [48] := by kernel_rfl
theorem numI_itoa {E : Int} (h0 : -2000 ≤ E) (h1 : E ≤ 2000) : numI (itoa E) = E := by
 have hv := itoa_vB E
 obtain ⟨e1, e2⟩ := vB_itoa hv
 have hl := Dc.itoa_len h0 h1
 obtain ⟨b1, b2⟩ := e2 (by omega)
 have a1 := Dc.atoi_itoa (n := E) (by omega) (by omega)
 rw [e1, Dc.atoi_itoa (by omega) (by omega)] at a1
 injection a1
theorem itoa_pos (c : Nat) : itoa (c : Int) = decDigits c := by
 unfold itoa
 rw [if_neg (by omega), Int.toNat_natCast]
theorem itoa_neg {c : Nat} (h : 0 < c) : itoa (-(c : Int)) = 45 :: decDigits c := by
 unfold itoa
 rw [if_pos (by omega), show (-(c : Int)).natAbs = c by omega]
theorem dec_end {c : Nat} : (decDigits c).getLast? = some (UInt8.ofNat (48 + c % 10)) := by
 obtain ⟨l, hl⟩ := dec_last c
 rw [hl, List.getLast?_concat]
theorem ofNat_48 {x : Nat} (hx : x < 10) (h : UInt8.ofNat (48 + x) = 48) : x = 0 := by
 have := congrArg UInt8.toNat h
 rw [Dc.dig_toNat hx] at this
 have e : (48 : UInt8).toNat = 48 := rfl
 omega
theorem sgn_last {g : Bool} {c : Nat} : (Dc.sgnB g ++ decDigits c).getLast? = some (UInt8.ofNat (48 + c % 10)) := by
 rw [List.getLast?_append, dec_end]
 rfl
end Fl
def partA (g : Bool) (c : Nat) : List UInt8 := Dc.sgnB g ++ decDigits c
theorem DecT.split {t : List UInt8} {g : Bool} {c : Nat} {E : Int} (h : DecT t g c E) : ∃ B, t = partA g c ++ 101 :: B ∧ (∀ b ∈ partA g c, b ≠ 101) ∧ Fl.GoodD (partA g c) B ∧ Fl.numI B = E ∧ (decDigits c).length ≤ 400 := by
 cases h with
 | zero =>
   refine ⟨[48], ?_, ?_, ?_, rfl, ?_⟩
   · rw [partA, decDigits_one (by decide)]; rfl
   · rw [partA, decDigits_one (by decide)]
     intro b hb
     simp [Dc.sgnB] at hb
     rw [hb]
     decide
   · rw [partA, decDigits_one (by decide)]
     exact ⟨by decide, by decide, by decide, by decide, by decide, fun _ => rfl, fun h => absurd rfl h⟩
   · rw [decDigits_one (by decide)]; decide
 | num _ _ _ hc hl h0 h1 =>
   have hlast := Fl.sgn_last (g := g) (c := c)
   have hx : partA g c ≠ [48] := fun e => by
    rw [partA] at e
    rw [e] at hlast
    have := Fl.ofNat_48 (Nat.mod_lt c (by decide)) (Option.some.inj hlast).symm
    omega
   refine ⟨itoa E, rfl, ?_, ⟨?_, Fl.itoa_vB E, ?_, ?_, ?_, fun e => absurd e hx, fun _ => ?_⟩, Fl.numI_itoa h0 h1, hl⟩
   · intro b hb he
     rw [partA, List.mem_append] at hb
     rcases hb with hb | hb
     · cases g <;> simp [Dc.sgnB] at hb
       rw [hb] at he
       exact absurd he (by decide)
     · have := Dc.dec_mem c b hb
       rw [he] at this
       exact absurd this.2 (by decide)
   · rw [partA]
     cases g with
     | true =>
       have := Fl.itoa_vB (-(c : Int))
       rwa [Fl.itoa_neg (by omega)] at this
     | false =>
       have := Fl.itoa_vB (c : Int)
       rwa [Fl.itoa_pos] at this
   · exact Nat.le_trans (Dc.itoa_len h0 h1) (by decide)
   · rw [Fl.numI_itoa h0 h1]; exact h0
   · rw [Fl.numI_itoa h0 h1]; exact h1
   · rw [partA, hlast]
     intro e
     have := Fl.ofNat_48 (Nat.mod_lt c (by decide)) (Option.some.inj e)
     omega
theorem Fl.GoodD.dec {A B : List UInt8} (h : Fl.GoodD A B) (hl : A.length ≤ 400) : ∃ g c E, DecT (A ++ 101 :: B) g c E := by
 obtain ⟨va, vb, bl, lo, hi, z0, last⟩ := h
 obtain ⟨a1, _⟩ := Fl.vB_itoa va
 obtain ⟨b1, _⟩ := Fl.vB_itoa vb
 obtain ⟨n, hn⟩ : ∃ n, Fl.numI A = n := ⟨_, rfl⟩
 obtain ⟨e, he⟩ : ∃ e, Fl.numI B = e := ⟨_, rfl⟩
 rw [hn] at a1
 rw [he] at b1 lo hi z0
 rcases Int.lt_trichotomy n 0 with h0 | h0 | h0
 · obtain ⟨c, rfl⟩ : ∃ c : Nat, n = -(c : Int) := ⟨n.natAbs, by omega⟩
   rw [Fl.itoa_neg (by omega)] at a1
   have hne : A ≠ [48] := fun e => by rw [a1] at e; exact absurd (List.cons.inj e).1 (by decide)
   have h3 := last hne
   have h4 : A = partA true c := a1
   rw [h4, partA, Fl.sgn_last] at h3
   refine ⟨true, c, e, ?_⟩
   rw [b1, h4]
   refine DecT.num true c e (fun hz => h3 (by rw [hz]; rfl)) ?_ lo hi
   rw [a1, List.length_cons] at hl
   omega
 · rw [h0, Fl.itoa_zero] at a1
   rw [z0 a1, Fl.itoa_zero] at b1
   rw [a1, b1]
   exact ⟨_, _, _, DecT.zero⟩
 · obtain ⟨c, rfl⟩ : ∃ c : Nat, n = (c : Int) := ⟨n.toNat, by omega⟩
   rw [Fl.itoa_pos] at a1
   have hne : A ≠ [48] := fun e => by
    rw [e] at hn
    have : Fl.numI [48] = 0 := by decide
    omega
   have h3 := last hne
   have h4 : A = partA false c := a1
   rw [h4, partA, Fl.sgn_last] at h3
   refine ⟨false, c, e, ?_⟩
   rw [b1, h4]
   refine DecT.num false c e (fun hz => h3 (by rw [hz]; rfl)) ?_ lo hi
   rw [a1] at hl
   exact hl
theorem readP_dec {l : List UInt8} {x : Dc.D} (h : Dc.readP l = some x) : ∃ g c E, DecT l g c E := by
 obtain ⟨⟨hn, hlim⟩, rfl⟩ := Dc.readP_iff.1 h
 obtain ⟨h1, h2, h3⟩ := Dc.limit_ok.1 hlim
 obtain ⟨n1, n2, n3, n4⟩ := hn
 unfold Dc.showB Dc.coefB
 by_cases h0 : x.c = []
 · obtain ⟨e1, e2⟩ := n2 h0
   rw [if_pos h0, e2, Fl.itoa_zero]
   exact ⟨_, _, _, DecT.zero⟩
 · rw [if_neg h0]
   obtain ⟨m, hm⟩ : ∃ m, x.c.length = m + 1 := ⟨x.c.length - 1, by have := List.length_pos_iff.2 h0; omega⟩
   obtain ⟨d1, _, _⟩ := Fl.numV_dec m (Dc.digB x.c) (by simp [Dc.digB, hm]) (fun b hb => by
    have := Dc.digB_mem n1 hb
    exact this) (fun hh => by
    cases hc : x.c with
    | nil => exact absurd hc h0
    | cons u l =>
      rw [hc] at hh
      have hu := n1 u (by rw [hc]; simp)
      have := Fl.ofNat_48 hu (Option.some.inj hh)
      exact absurd this (n3 u (by rw [hc]; rfl)))
   obtain ⟨c, hc⟩ : ∃ c, Fl.numV (Dc.digB x.c) = c := ⟨_, rfl⟩
   rw [hc] at d1
   rw [← d1]
   refine ⟨x.neg, c, x.e, DecT.num x.neg c x.e (fun hz => ?_) ?_ h2 h3⟩
   · have hlast := Fl.dec_end (c := c)
     rw [d1, hz, Dc.digB, List.getLast?_map] at hlast
     cases hg : x.c.getLast? with
     | none => rw [hg] at hlast; cases hlast
     | some u =>
       rw [hg] at hlast
       have hu := n1 u (List.mem_of_getLast? hg)
       have := Fl.ofNat_48 hu (Option.some.inj hlast)
       exact absurd this (n4 u hg)
   · rw [d1]
     simp [Dc.digB]
     exact h1
theorem readP_not {l : List UInt8} (h : ¬ ∃ g c E, DecT l g c E) : (Dc.readP l).isSome = false := by
 cases hr : Dc.readP l with
 | none => rfl
 | some x => exact absurd (readP_dec hr) h
def OfdGood (s : ByteArray) (x : Ending) : Prop :=
 (∃ A B D, s.data.toList = A ++ 101 :: B ∧ (∀ b ∈ A, b ≠ 101) ∧ Fl.GoodD A B ∧ D.data.toList = (if A.head? = some 45 then A.drop 1 else A) ∧ x = .returned (.tuple #[.agg #[.bool (decide (A.head? = some 45)), .string D, .int .i64 (Fl.numI B)], .bool true]))
def OfdBad (s : ByteArray) (x : Ending) : Prop :=
 (∀ A B, s.data.toList = A ++ 101 :: B → (∀ b ∈ A, b ≠ 101) → ¬ Fl.GoodD A B) ∧ x = .returned (.tuple #[.agg #[.bool false, .string ⟨#[]⟩, .int .i64 0], .bool false])
theorem head_zero {l : List UInt8} {d : UInt8} (h : l[0]? = some d) : decide (l.head? = some 45) = ((d.toNat : Int) == 45) := by
 have e : l.head? = some d := by
  cases l with
  | nil => cases h
  | cons x l => exact h
 rw [e]
 by_cases hd : d = 45
 · rw [hd]; rfl
 · have e2 : ((d.toNat : Int) == 45) = false := byte_eq (c := 45) hd
   rw [e2, decide_eq_false]
   exact fun h => hd (Option.some.inj h)
theorem ofdec_walk (s : ByteArray) (hs : s.size ≤ 1000) (h4 : ∀ A B, s.data.toList = A ++ 101 :: B → (∀ b ∈ A, b ≠ 101) → A.length ≤ Fl.at1 A + 400 ∧ B.length ≤ 300) (w : World) :
 Calls Tryz.prog 41 #[.string s] w fun x w' => (OfdGood s x ∨ OfdBad s x) ∧ Below w.heap.size w w' := by
 obtain ⟨w2, hw2⟩ : ∃ w2 : World, w.alloc (.cells #[.bool false, .string ⟨#[]⟩, .int .i64 0] 37) = w2 := ⟨_, rfl⟩
 obtain ⟨X, hX⟩ : ∃ X, w.heap.size = X := ⟨_, rfl⟩
 have hXc := heap_alloc_new w (.cells #[.bool false, .string ⟨#[]⟩, .int .i64 0] 37)
 have hb2 : Below X w w2 := by rw [← hw2, ← hX]; exact (Below.refl _ _).alloc (Nat.le_refl _) _
 rw [hw2, hX] at hXc
 have HW2 := Lib.hid hw2
 have HX := Lib.hid hX
 have z0 := at_block hXc 0 _ rfl
 have z1 := at_block hXc 1 _ rfl
 have z2 := at_block hXc 2 _ rfl
 have f0 := free_block hXc 0
 have f1 := free_block hXc 1
 have f2 := free_block hXc 2
 obtain ⟨PN, hPs, HNO, HEN⟩ : ∃ PN, PN ≤ s.size ∧ (∀ j b, j < PN → s.data.toList[j]? = some b → b ≠ 101) ∧ ((PN = s.size ∧ ∀ A B, s.data.toList = A ++ 101 :: B → False) ∨ ∃ A B, s.data.toList = A ++ 101 :: B ∧ (∀ b ∈ A, b ≠ 101) ∧ A.length = PN) := by
  rcases Fl.split_e s.data.toList with h | ⟨A, B, h, hA⟩
  · refine ⟨s.size, Nat.le_refl _, fun j b _ hb => h b (List.mem_of_getElem? hb), .inl ⟨rfl, fun A B e => h 101 (by rw [e]; simp) rfl⟩⟩
  · refine ⟨A.length, by rw [ba_size, h, List.length_append]; omega, fun j b hj hb => ?_, .inr ⟨A, B, h, hA, rfl⟩⟩
    rw [h, List.getElem?_append_left hj] at hb
    exact hA b (List.mem_of_getElem? hb)
 have HNO := Lib.hid HNO
 have HEN := Lib.hid HEN
 have H4 := Lib.hid h4
 clear hw2 hX hXc h4
 go_enter Tryz.func41, Tryz.ntmps41
 go_upto_block 0 with fail
 rw [HW2.out, HX.out]
 go_cut [4] (fun t wx => t = .int .i64 (PN : Int) ∧ wx = w2)
 case first =>
  go_upto_region 2 with fail
  go_loopg [4] PN (fun g t wx => ∃ k : Nat, t = .int .i64 (k : Int) ∧ wx = w2 ∧ k ≤ PN ∧ PN ≤ k + g)
  case atStart => exact ⟨0, rfl, rfl, by omega, by omega⟩
  case round =>
   obtain ⟨k, rfl, hww, hkp, hg⟩ := hrel
   subst hww
   by_cases hkl : k < PN
   · obtain ⟨g, rfl⟩ : ∃ g, gk = g + 1 := ⟨gk - 1, by omega⟩
     have hks : k < s.size := by omega
     have hk0 : (0 : Int) ≤ (k : Int) := by omega
     have hki : (k : Int) < s.size := by omega
     have n1 : decide (k < s.size) = true := decide_eq_true hks
     obtain ⟨e0, he⟩ : ∃ e : UInt8, s[k]'hks = e := ⟨_, rfl⟩
     have hne := HNO.out k e0 hkl (byte_at hks he)
     have n2 : ((e0.toNat : Int) == 101) = false := byte_eq (c := 101) hne
     have n3 : ((e0.toNat : Int) != 101) = true := by rw [bne, n2]; rfl
     go_wp2_with fail
     go_roundg g
     case measure => omega
     case rel => exact ⟨k + 1, by go_num, rfl, hkl, Nat.le_trans hg (Nat.le_of_eq (by rw [Nat.add_assoc, Nat.add_comm 1 g]))⟩
   · obtain rfl : k = PN := by omega
     rcases Nat.lt_or_ge k s.size with hks | hks
     · have hk0 : (0 : Int) ≤ (k : Int) := by omega
       have hki : (k : Int) < s.size := by omega
       have n1 : decide (k < s.size) = true := decide_eq_true hks
       have h101 : s[k]'hks = 101 := by
        have h1 := byte_at hks rfl
        rcases HEN.out with ⟨h2, _⟩ | ⟨A, B, h2, h3, h5⟩
        · omega
        · rw [h2, List.getElem?_append_right (by omega), h5, Nat.sub_self] at h1
          exact (Option.some.inj h1).symm
       have n2 : (((101 : UInt8).toNat : Int) == 101) = true := rfl
       have n3 : (((101 : UInt8).toNat : Int) != 101) = false := rfl
       clear hkl
       go_wp2_with fail
       go_meet
       exact ⟨rfl, rfl⟩
     · have n1 : decide (k < s.size) = false := decide_eq_false (by omega)
       clear hkl
       go_wp2_with fail
       go_meet
       exact ⟨rfl, rfl⟩
 case rest =>
  obtain ⟨rfl, hww⟩ := hcut
  obtain rfl : w2 = _ := hww.symm
  rcases HEN.out with ⟨hPN, hno⟩ | ⟨A, B, hAB, hA, hPN⟩
  · have n1 : ((PN : Int) == (s.size : Int)) = true := by rw [beq_iff_eq]; omega
    have HR := Lib.hid (show OfdBad s (.returned (.tuple #[.agg #[.bool false, .string ⟨#[]⟩, .int .i64 0], .bool false])) from ⟨fun A B e _ _ => hno A B e, rfl⟩)
    clear hno
    go_wp2_with fail
    refine bodyPost_ret (v := .tuple #[.agg #[.bool false, .string ⟨#[]⟩, .int .i64 0], .bool false]) (by simp [results, Tryz.results41, go_sem, z0, z1, z2]) rfl ?_
    refine ⟨.inr HR.out, ?_⟩
    rw [HX.out]
    exact ((hb2.setCell (p := ⟨X, 0, none⟩) (Nat.le_refl _) _).setCell (p := ⟨X, 1, none⟩) (Nat.le_refl _) _).setCell (p := ⟨X, 2, none⟩) (Nat.le_refl _) _
  · obtain ⟨a4, b3⟩ := H4.out A B hAB hA
    have hsz : s.size = PN + 1 + B.length := by rw [ba_size, hAB, List.length_append, List.length_cons, hPN]; omega
    obtain ⟨AB, hABe⟩ : ∃ AB, s.extract 0 PN = AB := ⟨_, rfl⟩
    obtain ⟨BB, hBBe⟩ : ∃ BB, s.extract (PN + 1) s.size = BB := ⟨_, rfl⟩
    have hABl : AB.data.toList = A := by
     rw [← hABe]
     simp [hAB, ← hPN]
    have hBBl : BB.data.toList = B := by
     rw [← hBBe]
     simp [hAB, ← hPN, hsz]
    have hABs : AB.size = PN := by rw [ba_size, hABl, hPN]
    have hBBs : BB.size = B.length := by rw [ba_size, hBBl]
    have n1 : ((PN : Int) == (s.size : Int)) = false := by rw [beq_eq_false_iff_ne]; omega
    have k0 : (0 : Int) ≤ (PN : Int) := by omega
    have k1 : (PN : Int) ≤ s.size := by omega
    have k2 : PN ≤ s.size := by omega
    have k3 : PN + 1 ≤ s.size := by omega
    have k4 : ((PN + 1 : Nat) : Int) ≤ s.size := by omega
    have k5 : IntKind.i64.wrap ((PN : Int) + 1) = ((PN + 1 : Nat) : Int) := by rw [show (PN : Int) + 1 = ((PN + 1 : Nat) : Int) by omega]; exact IntWalk.i64_in _ (by omega)
    have VA := fun W => refvalid_w AB (by omega) (by rw [hABs, ← hPN, hABl]; exact a4) W
    rw [hABl] at VA
    have one : ∀ A' B', s.data.toList = A' ++ 101 :: B' → (∀ b ∈ A', b ≠ 101) → A = A' ∧ B = B' := fun A' B' e h => Fl.split_one A A' B B' (hAB.symm.trans e) hA h
    have HBAD := Lib.hid (show (¬ Fl.GoodD A B) → OfdBad s (.returned (.tuple #[.agg #[.bool false, .string ⟨#[]⟩, .int .i64 0], .bool false])) from fun hg => ⟨fun A' B' e h hg' => by
     obtain ⟨rfl, rfl⟩ := one A' B' e h
     exact hg hg', rfl⟩)
    have HW3 := Lib.hid (show ∀ v0 v1 v2, Below w.heap.size w (((w2.setCell ⟨X, 0, none⟩ v0).setCell ⟨X, 1, none⟩ v1).setCell ⟨X, 2, none⟩ v2) from fun v0 v1 v2 => by
     rw [HX.out]
     exact ((hb2.setCell (p := ⟨X, 0, none⟩) (Nat.le_refl _) _).setCell (p := ⟨X, 1, none⟩) (Nat.le_refl _) _).setCell (p := ⟨X, 2, none⟩) (Nat.le_refl _) _)
    have HL := Lib.hid (And.intro hAB (And.intro hA (And.intro hABl (And.intro hBBl (And.intro hABs hPN)))))
    clear one
    obtain ⟨va, hva⟩ : ∃ va, Fl.vB A = va := ⟨_, rfl⟩
    rw [hva] at VA
    have VA := Lib.hid VA
    cases va with
    | false =>
      have HR := Lib.hid (HBAD.out fun h => by have := h.va; rw [hva] at this; cases this)
      clear hAB hA hPN hABl hBBl a4 b3 hva hsz
      go_wp2_with fail
      refine (VA.out _).mono ?_
      rintro x w5 ⟨rfl, rfl⟩
      go_wp2_with fail
      refine bodyPost_ret (v := .tuple #[.agg #[.bool false, .string ⟨#[]⟩, .int .i64 0], .bool false]) (by simp [results, Tryz.results41, go_sem, z0, z1, z2]) rfl ?_
      exact ⟨.inr HR.out, HW3.out _ _ _⟩
    | true =>
      by_cases hb : Fl.vB B = true ∧ B.length ≤ 18
      · have NB := fun W => refnumber_good BB (by omega) (by rw [hBBl]; exact hb.1) W
        rw [hBBl] at NB
        obtain ⟨e, he⟩ : ∃ e, Fl.numI B = e := ⟨_, rfl⟩
        rw [he] at NB
        have NB := Lib.hid NB
        have heb : -1000000000000000000 < e ∧ e < 1000000000000000000 := by
         have := (Fl.vB_itoa hb.1).2 hb.2
         omega
        by_cases hlo : e < -2000
        · have m1 : decide (e < -2000) = true := decide_eq_true hlo
          have HR := Lib.hid (HBAD.out fun h => by have := h.lo; omega)
          clear hAB hA hPN hABl hBBl a4 b3 hva hsz hb heb hlo
          go_wp2_with fail
          refine (VA.out _).mono ?_
          rintro x w5 ⟨rfl, rfl⟩
          go_wp2_with fail
          refine (NB.out _).mono ?_
          rintro x w5 ⟨rfl, rfl⟩
          go_wp2_with fail
          refine bodyPost_ret (v := .tuple #[.agg #[.bool false, .string ⟨#[]⟩, .int .i64 0], .bool false]) (by simp [results, Tryz.results41, go_sem, z0, z1, z2]) rfl ?_
          exact ⟨.inr HR.out, HW3.out _ _ _⟩
        have m1 : decide (e < -2000) = false := decide_eq_false hlo
        by_cases hhi : 2000 < e
        · have m2 : decide (2000 < e) = true := decide_eq_true hhi
          have HR := Lib.hid (HBAD.out fun h => by have := h.hi; omega)
          clear hAB hA hPN hABl hBBl a4 b3 hva hsz hb heb hlo hhi
          go_wp2_with fail
          refine (VA.out _).mono ?_
          rintro x w5 ⟨rfl, rfl⟩
          go_wp2_with fail
          refine (NB.out _).mono ?_
          rintro x w5 ⟨rfl, rfl⟩
          go_wp2_with fail
          refine bodyPost_ret (v := .tuple #[.agg #[.bool false, .string ⟨#[]⟩, .int .i64 0], .bool false]) (by simp [results, Tryz.results41, go_sem, z0, z1, z2]) rfl ?_
          exact ⟨.inr HR.out, HW3.out _ _ _⟩
        have m2 : decide (2000 < e) = false := decide_eq_false hhi
        have hA0 : A ≠ [] := fun e => by rw [e] at hva; cases hva
        have hP0 : 0 < PN := by rw [← hPN]; exact List.length_pos_iff.2 hA0
        have hAB0 : 0 < AB.size := by omega
        obtain ⟨d, hd⟩ : ∃ d : UInt8, AB[0]'hAB0 = d := ⟨_, rfl⟩
        have hd0 := byte_at hAB0 hd
        rw [hABl] at hd0
        have hhead := head_zero hd0
        have i0 : (0 : Int) < AB.size := by omega
        have i1 : decide (1 ≤ AB.size) = true := decide_eq_true (by omega)
        have i2 : (1 : Int) ≤ AB.size := by omega
        obtain ⟨CB, hCB⟩ : ∃ CB, AB.extract 1 PN = CB := ⟨_, rfl⟩
        have hCBl : CB.data.toList = A.drop 1 := by
         rw [← hCB]
         simp [hABl, ← hPN]
         exact List.take_of_length_le (by simp)
        have HGOOD := Lib.hid (show Fl.GoodD A B → ∀ D : ByteArray, D.data.toList = (if A.head? = some 45 then A.drop 1 else A) → OfdGood s (.returned (.tuple #[.agg #[.bool (decide (A.head? = some 45)), .string D, .int .i64 e], .bool true])) from fun hg D hD => ⟨A, B, D, hAB, hA, hg, hD, by rw [he]⟩)
        obtain ⟨b45, hb45⟩ : ∃ b, ((d.toNat : Int) == 45) = b := ⟨_, rfl⟩
        rw [hb45] at hhead
        by_cases hz : A = [48]
        · have m3 : (AB.toList == [48]) = true := by rw [Lib.toList_data, hABl, hz]; rfl
          have m4 : (AB.toList != [48]) = false := by rw [bne, m3]; rfl
          by_cases he0 : e = 0
          · subst he0
            have hg : Fl.GoodD A B := ⟨hva, hb.1, hb.2, by rw [he]; decide, by rw [he]; decide, fun _ => he, fun h => absurd hz h⟩
            have hd48 : d = 48 := by rw [hz] at hd0; exact (Option.some.inj hd0).symm
            subst hd48
            obtain rfl : b45 = false := hb45.symm
            have HR := Lib.hid (HGOOD.out hg AB (by rw [if_neg (of_decide_eq_false hhead), hABl]))
            rw [hhead] at HR
            clear hAB hA hPN hABl hBBl a4 b3 hva hsz hb heb hlo hhi hA0 hd0 hhead hz hCBl he hg
            go_wp2_with fail
            refine (VA.out _).mono ?_
            rintro x w5 ⟨rfl, rfl⟩
            go_wp2_with fail
            refine (NB.out _).mono ?_
            rintro x w5 ⟨rfl, rfl⟩
            go_wp2_with fail
            refine bodyPost_ret (v := .tuple #[.agg #[.bool false, .string AB, .int .i64 0], .bool true]) (by simp [results, Tryz.results41, go_sem, z0, z1, z2]) rfl ?_
            exact ⟨.inl HR.out, HW3.out _ _ _⟩
          · have m5 : (e != 0) = true := by rw [bne_iff_ne]; exact he0
            have m6 : (e == 0) = false := by rw [beq_eq_false_iff_ne]; exact he0
            have HR := Lib.hid (HBAD.out fun h => he0 (he.symm.trans (h.z0 hz)))
            clear hAB hA hPN hABl hBBl a4 b3 hva hsz hb heb hlo hhi hA0 hd0 hhead hz hCBl he he0
            go_wp2_with fail
            refine (VA.out _).mono ?_
            rintro x w5 ⟨rfl, rfl⟩
            go_wp2_with fail
            refine (NB.out _).mono ?_
            rintro x w5 ⟨rfl, rfl⟩
            go_wp2_with fail
            refine bodyPost_ret (v := .tuple #[.agg #[.bool false, .string ⟨#[]⟩, .int .i64 0], .bool false]) (by simp [results, Tryz.results41, go_sem, z0, z1, z2]) rfl ?_
            exact ⟨.inr HR.out, HW3.out _ _ _⟩
        · have m3 : (AB.toList == [48]) = false := ba_list' (by rw [hABl]; exact hz)
          have m4 : (AB.toList != [48]) = true := by rw [bne, m3]; rfl
          have hlt : PN - 1 < AB.size := by omega
          obtain ⟨u, hu⟩ : ∃ u : UInt8, AB[PN - 1]'hlt = u := ⟨_, rfl⟩
          have hu0 := byte_at hlt hu
          rw [hABl] at hu0
          have hulast : A.getLast? = some u := by rw [List.getLast?_eq_getElem?, hPN]; exact hu0
          obtain ⟨Q, hQ⟩ : ∃ Q, PN - 1 = Q := ⟨_, rfl⟩
          have j0 : IntKind.i64.wrap ((AB.size : Int) - 1) = (Q : Int) := by rw [show (AB.size : Int) - 1 = (Q : Int) by omega]; exact IntWalk.i64_in _ (by omega)
          have j1 : (0 : Int) ≤ (Q : Int) := by omega
          have j2 : (Q : Int) < AB.size := by omega
          subst hQ
          by_cases h48 : u = 48
          · have m5 : ((u.toNat : Int) == 48) = true := by rw [h48]; rfl
            have HR := Lib.hid (HBAD.out fun h => h.last hz (by rw [hulast, h48]))
            clear hAB hA hPN hABl hBBl a4 b3 hva hsz hb heb hlo hhi hA0 hd0 hhead hz hCBl he hu0 hulast h48
            go_wp2_with fail
            refine (VA.out _).mono ?_
            rintro x w5 ⟨rfl, rfl⟩
            go_wp2_with fail
            refine (NB.out _).mono ?_
            rintro x w5 ⟨rfl, rfl⟩
            go_wp2_with fail
            refine bodyPost_ret (v := .tuple #[.agg #[.bool false, .string ⟨#[]⟩, .int .i64 0], .bool false]) (by simp [results, Tryz.results41, go_sem, z0, z1, z2]) rfl ?_
            exact ⟨.inr HR.out, HW3.out _ _ _⟩
          · have m5 : ((u.toNat : Int) == 48) = false := byte_eq (c := 48) h48
            have hg : Fl.GoodD A B := ⟨hva, hb.1, hb.2, by rw [he]; omega, by rw [he]; omega, fun h => absurd h hz, fun _ h => h48 (Option.some.inj (hulast.symm.trans h))⟩
            cases b45 with
            | true =>
              have HR := Lib.hid (HGOOD.out hg CB (by rw [if_pos (of_decide_eq_true hhead), hCBl]))
              rw [hhead] at HR
              clear hAB hA hPN hABl hBBl a4 b3 hva hsz hb heb hlo hhi hA0 hd0 hhead hz hCBl he hu0 hulast h48 hg
              go_wp2_with fail
              refine (VA.out _).mono ?_
              rintro x w5 ⟨rfl, rfl⟩
              go_wp2_with fail
              refine (NB.out _).mono ?_
              rintro x w5 ⟨rfl, rfl⟩
              go_wp2_with fail
              refine bodyPost_ret (v := .tuple #[.agg #[.bool true, .string CB, .int .i64 e], .bool true]) (by simp [results, Tryz.results41, go_sem, z0, z1, z2]) rfl ?_
              exact ⟨.inl HR.out, HW3.out _ _ _⟩
            | false =>
              have HR := Lib.hid (HGOOD.out hg AB (by rw [if_neg (of_decide_eq_false hhead), hABl]))
              rw [hhead] at HR
              clear hAB hA hPN hABl hBBl a4 b3 hva hsz hb heb hlo hhi hA0 hd0 hhead hz hCBl he hu0 hulast h48 hg
              go_wp2_with fail
              refine (VA.out _).mono ?_
              rintro x w5 ⟨rfl, rfl⟩
              go_wp2_with fail
              refine (NB.out _).mono ?_
              rintro x w5 ⟨rfl, rfl⟩
              go_wp2_with fail
              refine bodyPost_ret (v := .tuple #[.agg #[.bool false, .string AB, .int .i64 e], .bool true]) (by simp [results, Tryz.results41, go_sem, z0, z1, z2]) rfl ?_
              exact ⟨.inl HR.out, HW3.out _ _ _⟩
      · have NB := Lib.hid (fun W => refnumber_bad BB (by omega) (by rw [hBBs, hBBl]; exact bad_or hb) W)
        have HR := Lib.hid (HBAD.out fun h => hb ⟨h.vb, h.bl⟩)
        clear hAB hA hPN hABl hBBl a4 b3 hva hsz hb
        go_wp2_with fail
        refine (VA.out _).mono ?_
        rintro x w5 ⟨rfl, rfl⟩
        go_wp2_with fail
        refine (NB.out _).mono ?_
        rintro x w5 ⟨rfl, rfl⟩
        go_wp2_with fail
        refine bodyPost_ret (v := .tuple #[.agg #[.bool false, .string ⟨#[]⟩, .int .i64 0], .bool false]) (by simp [results, Tryz.results41, go_sem, z0, z1, z2]) rfl ?_
        exact ⟨.inr HR.out, HW3.out _ _ _⟩
theorem part_head (g : Bool) (c : Nat) : decide ((partA g c).head? = some 45) = g ∧ (if (partA g c).head? = some 45 then (partA g c).drop 1 else partA g c) = decDigits c := by
 cases g with
 | true => exact ⟨rfl, rfl⟩
 | false =>
   have hne : (decDigits c).head? ≠ some 45 := fun h => by
    cases hd : decDigits c with
    | nil => exact Dc.dec_ne c hd
    | cons x l =>
      rw [hd] at h
      have := Dc.dec_mem c x (by rw [hd]; simp)
      simp at h
      rw [h] at this
      exact absurd this.1 (by decide)
   have e : partA false c = decDigits c := rfl
   rw [e]
   exact ⟨decide_eq_false hne, if_neg hne⟩
theorem at1_part (g : Bool) (c : Nat) : Fl.at1 (partA g c) = if g then 1 else 0 := by
 obtain ⟨h, _⟩ := part_head g c
 unfold Fl.at1
 cases g with
 | true => rw [if_pos (of_decide_eq_true h)]; rfl
 | false => rw [if_neg (of_decide_eq_false h)]; rfl
theorem ofdec_good {t : List UInt8} {g : Bool} {c : Nat} {E : Int} (h : DecT t g c E) (w : World) :
 Calls Tryz.prog 41 #[.string ⟨t.toArray⟩] w fun x w' => x = .returned (.tuple #[.agg #[.bool g, .string ⟨(decDigits c).toArray⟩, .int .i64 E], .bool true]) ∧ Below w.heap.size w w' := by
 obtain ⟨B, e1, hA, hg, hE, hl⟩ := h.split
 have e0 : (⟨t.toArray⟩ : ByteArray).data.toList = partA g c ++ 101 :: B := e1
 refine (ofdec_walk ⟨t.toArray⟩ h.size (fun A' B' e h' => ?_) w).mono ?_
 · obtain ⟨rfl, rfl⟩ := Fl.split_one _ _ _ _ (e0.symm.trans e) hA h'
   rw [at1_part]
   refine ⟨?_, by have := hg.bl; omega⟩
   cases g <;> simp [partA, Dc.sgnB] <;> omega
 · rintro x w' ⟨h2, hb⟩
   refine ⟨?_, hb⟩
   rcases h2 with ⟨A', B', D, e, h', hg', hD, rfl⟩ | ⟨h3, _⟩
   · obtain ⟨rfl, rfl⟩ := Fl.split_one _ _ _ _ (e0.symm.trans e) hA h'
     obtain ⟨p1, p2⟩ := part_head g c
     rw [p2] at hD
     rw [p1, hE]
     have : D = ⟨(decDigits c).toArray⟩ := by
      cases D with
      | mk d => rw [← hD]
     rw [this]
   · exact absurd hg (h3 _ _ e0 hA)
theorem ofdec_bad (s : ByteArray) (hs : s.size ≤ 300) (h : ¬ ∃ g c E, DecT s.data.toList g c E) (w : World) :
 Calls Tryz.prog 41 #[.string s] w fun x w' => x = .returned (.tuple #[.agg #[.bool false, .string ⟨#[]⟩, .int .i64 0], .bool false]) ∧ Below w.heap.size w w' := by
 have hlen : ∀ A B, s.data.toList = A ++ 101 :: B → A.length ≤ 300 ∧ B.length ≤ 300 := fun A B e => by
  rw [ba_size, e, List.length_append, List.length_cons] at hs
  omega
 refine (ofdec_walk s (by omega) (fun A B e _ => by have := hlen A B e; omega) w).mono ?_
 rintro x w' ⟨h2, hb⟩
 refine ⟨?_, hb⟩
 rcases h2 with ⟨A, B, D, e, hA, hg, hD, rfl⟩ | ⟨_, h3⟩
 · exact absurd (e ▸ hg.dec (by have := hlen A B e; omega)) h
 · exact h3
end Go.Proofs.YtjapgpmoojfhnaaGreatDoor
