/- The law's decimals: from their descriptions. -/
import Derived.Test.YtjapgpmoojfhnaaGreatDoorB36
import Derived.Test.YtjapgpmoojfhnaaGreatDoorB40
set_option maxHeartbeats 16000000
set_option maxRecDepth 100000
set_option linter.unusedSimpArgs false
set_option linter.unusedVariables false
namespace Go.Proofs.YtjapgpmoojfhnaaGreatDoor
open Go.RowKit Go.Lib
def txt0 (T : List Nat) : ByteArray := if T = [] then ⟨#[48]⟩ else ⟨(T.map UInt8.ofNat).toArray⟩
theorem of40_text {T : List Nat} (hT : GoodT T) (hl : T.length ≤ 400) : ∃ N, ∀ W, Calls Tryz.prog 40 #[.string (txt0 T)] W fun x w' => (∃ A m c, m ≤ c ∧ m ≤ 400 ∧ Reads w' w'.heap.size A m (u8s (Fl.digL N)) ∧ x = .returned (.agg #[.bool false, .slice A m c])) ∧ Below W.heap.size W w' := by
 by_cases h0 : T = []
 · refine ⟨0, fun W => ?_⟩
   rw [show txt0 T = ⟨#[48]⟩ from if_pos h0]
   refine (ref03of_any _ _ false readPre_zero W).mono ?_
   rintro x w' ⟨⟨A, m, c, hm, hmc, hr, rfl⟩, hb⟩
   have hl : ldig ⟨#[48]⟩ = [0] := by decide
   rw [hl] at hm hr
   have e := digL_trim (l := [0]) (n := 1) rfl (by decide) hm
   rw [e] at hr
   have hm1 : m ≤ 1 := hm.1
   exact ⟨⟨A, m, c, hmc, by omega, hr, rfl⟩, hb⟩
 · have hp := readPre_text hT h0 hl false
   rw [if_neg (by decide)] at hp
   have hn9 := ldig_nine hT
   have hx : txt0 T = ⟨(T.map UInt8.ofNat).toArray⟩ := if_neg h0
   obtain ⟨D, hD⟩ : ∃ D : ByteArray, (⟨(T.map UInt8.ofNat).toArray⟩ : ByteArray) = D := ⟨_, rfl⟩
   have hDs : D.size = T.length := by rw [← hD, ba_size]; simp
   rw [hD] at hp hn9 hx
   have hlen : (ldig D).length = D.size := by rw [ldig, List.length_reverse, List.length_map, ba_size]
   refine ⟨dv (ldig D), fun W => ?_⟩
   rw [hx]
   refine (ref03of_any D D false hp W).mono ?_
   rintro x w' ⟨⟨A, m, c, hm, hmc, hr, rfl⟩, hb⟩
   rw [digL_trim hlen hn9 hm] at hr
   exact ⟨⟨A, m, c, hmc, by have := hm.1; omega, hr, rfl⟩, hb⟩
theorem digL_drop {N i M : Nat} (hM : M ≠ 0) (h : (Fl.digL N).drop i = Fl.digL M) : i < (Fl.digL N).length ∧ (Fl.digL N)[i]? = some (M % 10) ∧ (M % 10 = 0 → M / 10 ≠ 0 ∧ (Fl.digL N).drop (i + 1) = Fl.digL (M / 10)) := by
 have e : Fl.digL M = M % 10 :: Fl.digL (M / 10) := Fl.digL_pos (by omega)
 have h1 : (Fl.digL N)[i]? = some (M % 10) := by
  have : ((Fl.digL N).drop i)[0]? = some (M % 10) := by rw [h, e]; rfl
  rwa [List.getElem?_drop, Nat.add_zero] at this
 refine ⟨(List.getElem?_eq_some_iff.1 h1).1, h1, fun hz => ⟨by omega, ?_⟩⟩
 rw [← List.tail_drop, h, e]
 rfl
structure IBox (w : World) (P : Nat) (A : Option Addr) (n c u : Nat) : Prop where
 cell : w.heap[P]? = some (.cells #[.bool false, .slice A n c] 33 (0, 0))
 rd : Reads w w.heap.size A n (u8s (Fl.digL u))
theorem IBox.on {w w' : World} {P : Nat} {A : Option Addr} {n c u : Nat} (h : IBox w P A n c u) (hb : Below w.heap.size w w') : IBox w' P A n c u := ⟨(hb.block P (lt_of_block h.cell)).trans h.cell, h.rd.on hb⟩
theorem IBox.c1 {w : World} {P : Nat} {A : Option Addr} {n c u : Nat} (h : IBox w P A n c u) : w.cell? ⟨P, 1, none⟩ = some (.slice A n c) := at_block h.cell 1 _ rfl
theorem IBox.new {w : World} {A : Option Addr} {n c u : Nat} (hr : Reads w w.heap.size A n (u8s (Fl.digL u))) : IBox (w.alloc (.cells #[.bool false, .slice A n c] 33)) w.heap.size A n c u ∧ Below w.heap.size w (w.alloc (.cells #[.bool false, .slice A n c] 33)) :=
 ⟨⟨heap_alloc_new w _, hr.on ((Below.refl _ _).alloc (Nat.le_refl _) _)⟩, (Below.refl _ _).alloc (Nat.le_refl _) _⟩
theorem l4 {A B C : Prop} {a W : World} (h : A ∧ B ∧ C ∧ Below a.heap.size a W) : Below a.heap.size a W := h.2.2.2
theorem dec22_any (g : Bool) (D : ByteArray) (e : Int) (he : -32768 ≤ e ∧ e ≤ 32767) (w : World) : Calls Tryz.prog 22 #[.agg #[.bool g, .string D, .int .i16 e]] w fun x w' => (∃ t g' c E, DecT t g' c E ∧ x = .returned (.string ⟨t.toArray⟩)) ∧ Below w.heap.size w w' := by
 obtain ⟨w2, X, hw2, hX, hb2, hX2⟩ : ∃ (w2 : World) (X : Nat), w.alloc (.cells #[.bool g, .string D, .int .i16 e] 43) = w2 ∧ w.heap.size = X ∧ Below w.heap.size w w2 ∧ w2.heap[X]? = some (.cells #[.bool g, .string D, .int .i16 e] 43 (0, 0)) :=
  ⟨_, _, rfl, rfl, (Below.refl _ _).alloc (Nat.le_refl _) _, heap_alloc_new w _⟩
 have hXlt := lt_of_block hX2
 have a0 := at_block hX2 0 _ rfl
 have a1 := at_block hX2 1 _ rfl
 have a2 := at_block hX2 2 _ rfl
 have TX := Lib.hid (text03_any false D 0 (by decide) w2)
 have HW2 := Lib.hid hw2
 have HX := Lib.hid hX
 have HB2 := Lib.hid (And.intro hb2 hX2)
 clear hw2 hX hb2 hX2
 go_enter Tryz.func22, Tryz.ntmps22
 go_upto_region 1 with fail
 rw [HW2.out, HX.out]
 go_wp2_with fail
 refine TX.out.mono ?_
 rintro x w3 ⟨T, hT, hTl, rfl, hb3⟩
 obtain ⟨N, OF⟩ := of40_text hT hTl
 have OF := Lib.hid OF
 rw [show (if T = [] then (⟨#[48]⟩ : ByteArray) else if false = true then ⟨((45 :: T.map UInt8.ofNat) : List UInt8).toArray⟩ else ⟨(T.map UInt8.ofNat).toArray⟩) = txt0 T by unfold txt0; simp]
 clear a0 a1 a2
 go_wp2_with fail
 refine (OF.out _).mono ?_
 rintro x w4 ⟨⟨A, m, c, hmc, hm4, hr, rfl⟩, hb4⟩
 have hlm : (Fl.digL N).length = m := by have := hr.1; rwa [u8s_len] at this
 have hb34 : Below w2.heap.size w2 w4 := hb3.trans (hb4.mono hb3.size)
 obtain ⟨hnb, hbn⟩ := IBox.new (u := N) (c := c) hr
 obtain ⟨Y, hY⟩ : ∃ Y, w4.heap.size = Y := ⟨_, rfl⟩
 have hXY : X < Y := by rw [← hY]; exact Nat.lt_of_lt_of_le hXlt hb34.size
 have hX4 := (hb34.block X hXlt).trans HB2.out.2
 have hX5 := (hbn.block X (by rw [hY]; exact hXY)).trans hX4
 have hb5 : Below w.heap.size w (w4.alloc (.cells #[.bool false, .slice A m c] 33)) := HB2.out.1.trans ((hb34.trans (hbn.mono hb34.size)).mono HB2.out.1.size)
 by_cases h0 : m = 0
 · subst h0
   have HF := Lib.hid hb5
   clear hr hb3 hb4 hb34 hnb hbn hX4 hX5 hb5 hlm
   go_wp2_with fail
   go_ret
   exact ⟨⟨_, _, _, _, DecT.zero, rfl⟩, HF.out⟩
 · have e0 : ((m : Int) == 0) = false := by rw [beq_eq_false_iff_ne]; omega
   have hN0 : N ≠ 0 := fun h => h0 (by rw [← hlm, h, Fl.digL_zero]; rfl)
   have HF := Lib.hid (And.intro hb5 (And.intro hX5 (And.intro hlm (And.intro hN0 (And.intro hmc hm4)))))
   obtain ⟨bA, oA, _, hA, _⟩ := hr.at_ (k := 0) (by omega)
   subst hA
   go_upto_region 2 with fail
   have hm4b : m ≤ 400 := hm4
   rw [hY] at hnb
   generalize w4.alloc (.cells #[.bool false, .slice (some ⟨bA, oA, none⟩) m c] 33) = w5 at hnb HF ⊢
   have n1 := hnb.c1
   have HNB := Lib.hid hnb
   clear hr hb3 hb4 hb34 hnb hbn hX4 hX5 hb5 hlm
   go_upto_block 0 with fail
   go_cut [4] (fun t4 wx => ∃ k M : Nat, t4 = .int .i64 (k : Int) ∧ k < m ∧ M % 10 ≠ 0 ∧ (Fl.digL N).drop k = Fl.digL M ∧ wx = w5)
   case first =>
    go_upto_region 5 with fail
    go_loopg [4] m (fun f t4 wx => ∃ k M : Nat, t4 = .int .i64 (k : Int) ∧ k + f = m ∧ M ≠ 0 ∧ (Fl.digL N).drop k = Fl.digL M ∧ wx = w5)
    case atStart => exact ⟨0, N, rfl, Nat.zero_add _, HF.out.2.2.2.1, rfl, rfl⟩
    case round =>
     obtain ⟨k, M, rfl, hkf, hM, hd, rfl⟩ := hrel
     obtain ⟨d1, d2, d3⟩ := digL_drop hM hd
     have hkm : k < m := by rw [← HF.out.2.2.1]; exact d1
     obtain ⟨bb, oo, u, he, hbB, hu, xu⟩ := HNB.out.rd.at_ (k := k) hkm
     obtain ⟨rfl, rfl⟩ : bA = bb ∧ oA = oo := by simpa using he
     obtain ⟨x, hx, rfl⟩ := u8_at hu
     obtain rfl : x = M % 10 := Option.some.inj (hx.symm.trans d2)
     have i0 : (0 : Int) ≤ (k : Int) := Int.natCast_nonneg k
     have i1 : (k : Int) < (m : Int) := by omega
     have s1 : IntKind.i64.wrap ((k : Int) + 1) = ((k + 1 : Nat) : Int) := by rw [IntKind.wrap_i64]; omega
     by_cases hz : M % 10 = 0
     · obtain ⟨f, rfl⟩ : ∃ f, gk = f + 1 := ⟨gk - 1, by omega⟩
       rw [hz] at xu
       have HR := Lib.hid (And.intro (d3 hz).1 (And.intro (d3 hz).2 (show k + 1 + f = m by omega)))
       clear hkf hM hd d1 d2 d3 he hbB hu hx hz
       go_wp2_with fail
       go_roundg f
       case measure => exact Nat.lt_succ_self _
       case rel => exact ⟨k + 1, M / 10, by first | rfl | exact congrArg (Value.int .i64) s1, HR.out.2.2, HR.out.1, HR.out.2.1, rfl⟩
     · have e1 : (((M % 10 : Nat) : Int) == 0) = false := by rw [beq_eq_false_iff_ne]; omega
       obtain ⟨q, hq⟩ : ∃ q, M % 10 = q := ⟨_, rfl⟩
       have HR := Lib.hid (And.intro hkm (And.intro hz hd))
       rw [hq] at xu e1
       clear hkf hM hd d1 d2 d3 he hbB hu hx hz hq
       go_wp2_with fail
       go_meet
       exact ⟨k, M, rfl, HR.out.1, HR.out.2.1, HR.out.2.2, rfl⟩
   case rest =>
    obtain ⟨k, M, rfl, hkm, hM, hd, hww⟩ := hcut
    obtain rfl : w5 = _ := hww.symm
    have i0 : (0 : Int) ≤ (k : Int) := Int.natCast_nonneg k
    have i1 : (k : Int) ≤ (m : Int) := by omega
    have i2 : (m : Int) ≤ (c : Int) := by have := HF.out.2.2.2.2.1; omega
    have hXw : X < w5.heap.size := lt_of_block HF.out.2.1
    have hYw : Y < w5.heap.size := lt_of_block HNB.out.cell
    have HC := Lib.hid (show ∀ W, Below w5.heap.size w5 W → W.cell? ⟨X, 0, none⟩ = some (.bool g) ∧ W.cell? ⟨X, 2, none⟩ = some (.int .i16 e) ∧ W.cell? ⟨Y, 1, none⟩ = some (.slice (some ⟨bA, oA, none⟩) m c) ∧ Below w5.heap.size w5 W from fun W hW => by
     have h1 := (hW.block X hXw).trans HF.out.2.1
     have h2 := (hW.block Y hYw).trans HNB.out.cell
     exact ⟨at_block h1 0 _ rfl, at_block h1 2 _ rfl, at_block h2 1 _ rfl, hW⟩)
    obtain ⟨S, hS⟩ : ∃ S : ByteArray, ⟨(decDigits M).toArray⟩ = S := ⟨_, rfl⟩
    have HS := Lib.hid hS
    have DT := Lib.hid (show ∀ W, Below w5.heap.size w5 W → Calls Tryz.prog 19 #[.agg #[.bool false, .slice (if c = k then some ⟨bA, oA, none⟩ else some ⟨bA, oA + k, none⟩) (m - k) (c - k)]] W fun x w' => x = .returned (.string S) ∧ Below W.heap.size W w' from fun W hW => by
     rw [if_neg (show ¬ c = k by have := HF.out.2.2.2.2.1; omega)]
     have h1 := ((HNB.out.on hW).rd).drop k (Nat.le_of_lt hkm) bA oA rfl
     have e : (u8s (Fl.digL N)).drop k = u8s (Fl.digL M) := by rw [← hd]; exact (List.map_drop).symm
     rw [e] at h1
     have := digits_text _ _ (c - k) M (by omega) (by have := HF.out.2.2.2.2.2; omega) W h1
     rwa [hS] at this)
    have HM := Lib.hid (And.intro hM (And.intro hd hkm))
    have hd5 : Below w5.heap.size w5 w5 := Below.refl _ _
    have s1 : IntKind.i64.wrap e = e := by rw [IntKind.wrap_i64]; omega
    obtain ⟨v, hv⟩ : ∃ v, e + (k : Int) = v := ⟨_, rfl⟩
    have hk4 : m ≤ 400 := HF.out.2.2.2.2.2
    have s2 : IntKind.i64.wrap (e + (k : Int)) = v := by rw [IntKind.wrap_i64]; omega
    obtain ⟨p0, p1, p2, _⟩ := HC.out w5 hd5
    clear hM hd hS hv hk4 n1
    go_upto_region 7 with fail
    go_cut [5] (fun t5 wx => ∃ G : Nat, t5 = .pointer (some ⟨G, 0, none⟩) ∧ wx.heap[G]? = some (.cells #[.bool g, .string S, .int .i64 (min (max v (-2000)) 2000)] 37 (0, 0)) ∧ Below w5.heap.size w5 wx)
    case first =>
     go_region_held3 (fun W => W.cell? ⟨X, 0, none⟩ = some (.bool g) ∧ W.cell? ⟨X, 2, none⟩ = some (.int .i16 e) ∧ W.cell? ⟨Y, 1, none⟩ = some (.slice (some ⟨bA, oA, none⟩) m c) ∧ Below w5.heap.size w5 W)
      ((refine HC.out _ ?_; with_reducible first | assumption | ((repeat' (first | assumption | exact Below.refl _ _ | refine b_drew ?_ | refine b_alloc ?_ _ | refine b_set ?_ ?_ _ | exact Nat.le_refl _ | exact Below.size (by assumption))); done)))
      (first | (go_at_call 19; refine (DT.out _ (by first | assumption | exact l4 (by assumption) | exact Below.refl _ _ | exact l_drew (by assumption) | exact l_drew (Below.refl _ _) | exact b_alloc (Below.refl _ _) _ | exact l_drew (b_alloc (Below.refl _ _) _))).mono ?_; rintro x w6 ⟨rfl, hb6⟩; have hb6' := l_trans (by assumption) hb6; try (have q : w6.heap[w5.heap.size]? = some (.cells #[.bool false, .string ⟨#[]⟩, .int .i64 0] 37 (0, 0)) := (by first | exact alloc_kept hb6 | exact alloc_kept' hb6); have q0 := at_block q 0 _ rfl; have q1 := at_block q 1 _ rfl; have q2 := at_block q 2 _ rfl; have g0 := free_block q 0; have g1 := free_block q 1; have g2 := free_block q 2; have HQQ := Lib.hid q; clear q)))
     all_goals first
      | (go_wp2_with fail
         go_meet
         exact ⟨_, rfl, heap_alloc_new _ _, b_alloc hb6' _⟩)
      | (go_wp2_with fail
         go_meet
         exact ⟨_, rfl, block_set (block_set (block_set HQQ.out 0 _) 1 _) 2 _, b_set (b_set (b_set hb6' (Nat.le_refl _) _) (Nat.le_refl _) _) (Nat.le_refl _) _⟩)
    case rest =>
     obtain ⟨G, rfl, hG, hbG⟩ := hcut
     have hML : (decDigits M).length ≤ 400 := by
      have h1 := congrArg List.length HM.out.2.1
      rw [List.length_drop, HF.out.2.2.1] at h1
      rw [Fl.dec_length (by have := HM.out.1; omega), ← h1]
      have := HF.out.2.2.2.2.2
      omega
     have c0 := at_block hG 0 _ rfl
     have c1 := at_block hG 1 _ rfl
     have c2 := at_block hG 2 _ rfl
     obtain ⟨E, hE⟩ : ∃ E : Int, min (max v (-2000)) 2000 = E := ⟨_, rfl⟩
     rw [hE] at c2 hG
     have hE0 : -2000 ≤ E ∧ E ≤ 2000 := by omega
     have T21 := Lib.hid (fun W => dectext21 g M E W (Nat.le_trans hML (by decide)) hE0)
     rw [HS.out] at T21
     have HB := Lib.hid (HF.out.1.trans (hbG.mono HF.out.1.size))
     have HD := Lib.hid (DecT.num g M E HM.out.1 hML hE0.1 hE0.2)
     clear hG hbG hE hML hE0 p0 p1 p2 hd5
     go_wp2_with fail
     refine (T21.out _).mono ?_
     rintro x w8 ⟨rfl, hb8⟩
     have HB8 := Lib.hid (b_trans HB.out hb8)
     clear hb8
     go_wp2_with fail
     go_ret
     exact ⟨⟨_, _, _, _, HD.out, rfl⟩, HB8.out⟩
end Go.Proofs.YtjapgpmoojfhnaaGreatDoor
