/- The reference: odd. The reference: of64. The reference: the text of an integer. The reference: trim, signed, Neg at digits without leading zeros. The reference: the text of zero, Neg, small. -/
import Derived.Test.YtjapgpmoojfhnaaGreatDoorB12
import Derived.Deep.LoopGhost
set_option maxHeartbeats 16000000
set_option maxRecDepth 100000
set_option linter.unusedSimpArgs false
set_option linter.unusedVariables false
namespace Go.Proofs.YtjapgpmoojfhnaaGreatDoor
open Go.RowKit Go.Lib
theorem odd_zero (neg : Bool) (e : Int) (w : World) : Calls Tryz.prog 45 #[.bool neg, .int .u64 0, .int .i64 e] w fun x w' => x = .returned (.agg #[.int .i64 0, .bool neg, .int .u64 0, .int .i64 0]) ∧ Below w.heap.size w w' := by
 go_enter Tryz.func45, Tryz.ntmps45
 go_wp2_with fail
 have hX := heap_alloc_new w (.cells #[.int .i64 0, .bool neg, .int .u64 0, .int .i64 0] 24)
 have z0 := at_block hX 0 _ rfl
 have z1 := at_block hX 1 _ rfl
 have z2 := at_block hX 2 _ rfl
 have z3 := at_block hX 3 _ rfl
 refine bodyPost_ret (v := .agg #[.int .i64 0, .bool neg, .int .u64 0, .int .i64 0]) (by simp [results, Tryz.results45, go_sem, z0, z1, z2, z3]) rfl ?_
 exact ⟨rfl, (Below.refl _ _).alloc (Nat.le_refl _) _⟩
theorem odd_wide (neg : Bool) (c z : Nat) (e : Int) (w : World) (hc : c % 2 = 1) (hz : z < 64) (hm : c * 2 ^ z < 18446744073709551616) (he : -10000 ≤ e ∧ e ≤ 10000) :
 Calls Tryz.prog 45 #[.bool neg, .int .u64 ((c * 2 ^ z : Nat) : Int), .int .i64 e] w fun x w' => x = .returned (.agg #[.int .i64 0, .bool neg, .int .u64 (c : Int), .int .i64 (e + (z : Int))]) ∧ Below w.heap.size w w' := by
 have hc0 : 0 < c := by omega
 have hcm : c ≤ c * 2 ^ z := Nat.le_mul_of_pos_right _ (Nat.two_pow_pos _)
 obtain ⟨m, hmm⟩ : ∃ m, c * 2 ^ z = m := ⟨_, rfl⟩
 rw [hmm] at hm hcm ⊢
 have hm0 : ((m : Int) == 0) = false := by rw [beq_eq_false_iff_ne]; omega
 have HM := Lib.hid hmm
 clear hmm
 go_enter Tryz.func45, Tryz.ntmps45
 go_wp2_with fail
 go_loopg [1, 2] z (fun f t1 t2 wx => ∃ (k M : Nat), t1 = .int .u64 (M : Int) ∧ t2 = .int .i64 (e + (k : Int)) ∧ k + f = z ∧ M = c * 2 ^ f ∧ M ≤ m ∧ wx.heap[w.heap.size]? = some (.cells #[.int .i64 0, .bool false, .int .u64 0, .int .i64 0] 24 (0, 0)) ∧ Below w.heap.size w wx)
 case atStart =>
  exact ⟨0, m, rfl, by simp, by omega, HM.out.symm, Nat.le_refl _, heap_alloc_new w _, (Below.refl _ _).alloc (Nat.le_refl _) _⟩
 case round =>
  obtain ⟨k, M, rfl, rfl, hk, hM, hMm, hX, hbx⟩ := hrel
  cases gk with
  | zero =>
    obtain rfl : M = c := by rw [hM, Nat.pow_zero, Nat.mul_one]
    have g1 : Int.tmod (M : Int) 2 = 1 := by rw [Int.tmod_eq_emod_of_nonneg (by omega)]; omega
    have g2 : (M : Int) % 2 = 1 := by omega
    obtain rfl : k = z := by omega
    have z0 := at_block hX 0 _ rfl
    have z1 := at_block hX 1 _ rfl
    have z2 := at_block hX 2 _ rfl
    have z3 := at_block hX 3 _ rfl
    have f0 := free_block hX 0
    have f1 := free_block hX 1
    have f2 := free_block hX 2
    have f3 := free_block hX 3
    have HX := Lib.hid hX
    clear hM hMm hX hc hm hcm hm0 hc0
    go_wp2_with fail
    refine bodyPost_ret (v := .agg #[.int .i64 0, .bool neg, .int .u64 (M : Int), .int .i64 (e + (k : Int))]) (by simp [results, Tryz.results45, go_sem, z0, z1, z2, z3]) rfl ?_
    refine ⟨rfl, ?_⟩
    exact (((hbx.setCell (p := ⟨w.heap.size, 0, none⟩) (Nat.le_refl _) _).setCell (p := ⟨w.heap.size, 1, none⟩) (Nat.le_refl _) _).setCell (p := ⟨w.heap.size, 2, none⟩) (Nat.le_refl _) _).setCell (p := ⟨w.heap.size, 3, none⟩) (Nat.le_refl _) _
  | succ f =>
    obtain ⟨N, hN⟩ : ∃ N, c * 2 ^ f = N := ⟨_, rfl⟩
    have hMN : M = 2 * N := by rw [hM, Nat.pow_succ, ← Nat.mul_assoc, hN, Nat.mul_comm]
    have g1 : Int.tmod (M : Int) 2 = 0 := by rw [Int.tmod_eq_emod_of_nonneg (by omega)]; omega
    have g2 : (M : Int) % 2 = 0 := by omega
    have g3 : Int.tdiv (M : Int) 2 = (N : Int) := by rw [Int.tdiv_eq_ediv_of_nonneg (by omega)]; omega
    have g4 : (M : Int) / 2 = (N : Int) := by omega
    have g5 : IntKind.u64.wrap (N : Int) = (N : Int) := by rw [IntKind.wrap_u64]; omega
    have g6 : IntKind.i64.wrap (e + (k : Int) + 1) = e + (k : Int) + 1 := IntWalk.i64_in _ (by omega)
    have HH := Lib.hid (And.intro hN (And.intro hX hMm))
    have HMN := Lib.hid hMN
    clear hM hMm hX hN hMN hm0 hcm hc0
    go_wp2_with fail
    go_roundg f
    case measure => omega
    case rel =>
     have := HMN.out
     exact ⟨k + 1, N, rfl, by congr 1; omega, by omega, HH.out.1.symm, by have := HH.out.2.2; omega, HH.out.2.1, hbx⟩
def Fl.digL (u : Nat) : List Nat := if h : u = 0 then [] else (u % 10) :: Fl.digL (u / 10)
termination_by u
decreasing_by omega
theorem Fl.digL_zero : Fl.digL 0 = [] := by rw [Fl.digL]; rfl
theorem Fl.digL_pos {u : Nat} (h : u ≠ 0) : Fl.digL u = (u % 10) :: Fl.digL (u / 10) := by rw [Fl.digL, dif_neg h]
theorem own_heap {w w' : World} {base : Nat} {e : TypeId} {v : Value} {n : Nat} {xs : List Value} (h : w.ownsRow base e 1 v n xs) (hk : ∀ k, base ≤ k → k < w.heap.size → w'.heap[k]? = w.heap[k]?) : w'.ownsRow base e 1 v n xs := by
 obtain ⟨h1, h2⟩ := h
 refine ⟨h1, ?_⟩
 rcases h2 with h2 | ⟨g, cap, cur, hv, hb, hg, hr⟩
 · exact .inl h2
 · exact .inr ⟨g, cap, cur, hv, hb, (hk g hb (lt_of_block hg)).trans hg, hr⟩
theorem of64_any (u : Nat) (w : World) (hu : u < 18446744073709551616) :
 Calls Tryz.prog 50 #[.int .u64 (u : Int)] w fun x w' => ∃ v, x = .returned (.agg #[.bool false, v]) ∧ w'.ownsRow (w.heap.size + 2) 5 1 v (Fl.digL u).length (u8s (Fl.digL u)) ∧ Below w.heap.size w w' := by
 obtain ⟨i0, hi, hz0, hz1, hz2⟩ := info_parts info5
 go_enter Tryz.func50, Tryz.ntmps50
 go_upto_block 0 with fail
 obtain ⟨X, hX⟩ : ∃ X, w.heap.size = X := ⟨_, rfl⟩
 obtain ⟨q1, q2⟩ : ((w.alloc (.cells #[.bool false, .slice none 0 0] 33)).alloc (.cells #[.bool false, .slice none 0 0] 33)).heap[X]? = some (.cells #[.bool false, .slice none 0 0] 33 (0, 0)) ∧ ((w.alloc (.cells #[.bool false, .slice none 0 0] 33)).alloc (.cells #[.bool false, .slice none 0 0] 33)).heap[X + 1]? = some (.cells #[.bool false, .slice none 0 0] 33 (0, 0)) := by
  refine ⟨?_, ?_⟩
  · rw [Below.heap_alloc _ _ _ (by simp; omega), ← hX]; exact heap_alloc_new w _
  · have := heap_alloc_new (w.alloc (.cells #[.bool false, .slice none 0 0] 33)) (.cells #[.bool false, .slice none 0 0] 33)
    rw [← hX]
    simpa using this
 have hb2 : Below X w ((w.alloc (.cells #[.bool false, .slice none 0 0] 33)).alloc (.cells #[.bool false, .slice none 0 0] 33)) := by rw [← hX]; exact ((Below.refl _ _).alloc (Nat.le_refl _) _).alloc (by simp) _
 have hs2 : ((w.alloc (.cells #[.bool false, .slice none 0 0] 33)).alloc (.cells #[.bool false, .slice none 0 0] 33)).heap.size = X + 2 := by rw [← hX]; simp
 obtain ⟨w2, hw2⟩ : ∃ w2, (w.alloc (.cells #[.bool false, .slice none 0 0] 33)).alloc (.cells #[.bool false, .slice none 0 0] 33) = w2 := ⟨_, rfl⟩
 rw [hw2] at q1 q2 hb2 hs2
 rw [hw2, hX]
 clear hw2
 go_wp2_with fail
 go_loopg [0] 20 (fun f t0 wx => ∃ (x : Nat) (v : Value) (acc : List Nat), t0 = .int .u64 (x : Int) ∧ x ≤ u ∧ x < 10 ^ f ∧ acc ++ Fl.digL x = Fl.digL u ∧ acc.length + f ≤ 20 ∧ wx.heap[X]? = some (.cells #[.bool false, .slice none 0 0] 33 (0, 0)) ∧ wx.heap[X + 1]? = some (.cells #[.bool false, v] 33 (0, 0)) ∧ wx.ownsRow (X + 2) 5 1 v acc.length (u8s acc) ∧ X + 2 ≤ wx.heap.size ∧ Below X w wx)
 case atStart => exact ⟨u, .slice none 0 0, [], rfl, Nat.le_refl _, by omega, rfl, by simp, q1, q2, World.ownsRow_nil _ _ _ _, by omega, hb2⟩
 case round =>
  obtain ⟨x, v, acc, rfl, hxu, hxf, hacc, hlen, hA, hB, hown, hsz, hbx⟩ := hrel
  obtain ⟨A, cp, rfl⟩ := own_form hown
  obtain ⟨n, hn⟩ : ∃ n, acc.length = n := ⟨_, rfl⟩
  rw [hn] at hown hB hlen
  have z1 := at_block hB 1 _ rfl
  by_cases hx0 : x = 0
  · subst hx0
    have hac : acc = Fl.digL u := by rw [← hacc, Fl.digL_zero, List.append_nil]
    have z0 := at_block hB 0 _ rfl
    have a0 := at_block hA 0 _ rfl
    have a1 := at_block hA 1 _ rfl
    have fa0 := free_block hA 0
    have fa1 := free_block hA 1
    have HAC := Lib.hid (And.intro hac hn)
    have HOW := Lib.hid hown
    have HHA := Lib.hid hA
    have HX := Lib.hid hX
    clear hac hacc hown hA hB hX hn
    go_wp2_with fail
    refine bodyPost_ret (v := .agg #[.bool false, .slice A n cp]) (by simp [results, Tryz.results50, go_sem, a0, a1]) rfl ?_
    rw [HX.out]
    refine ⟨_, rfl, ?_, (hbx.setCell (p := ⟨X, 0, none⟩) (Nat.le_refl _) _).setCell (p := ⟨X, 1, none⟩) (Nat.le_refl _) _⟩
    have e1 : (Fl.digL u).length = n := by rw [← HAC.out.1]; exact HAC.out.2
    rw [e1, ← HAC.out.1]
    refine own_heap HOW.out fun k hk1 _ => ?_
    rw [Below.heap_setCell _ _ _ _ (by show k ≠ X; omega), Below.heap_setCell _ _ _ _ (by show k ≠ X; omega)]
  · obtain ⟨f, rfl⟩ : ∃ f, gk = f + 1 := ⟨gk - 1, by
     rcases Nat.eq_zero_or_pos gk with h | h
     · subst h; simp at hxf; omega
     · omega⟩
    obtain ⟨d, hd⟩ : ∃ d, x % 10 = d := ⟨_, rfl⟩
    obtain ⟨y, hy⟩ : ∃ y, x / 10 = y := ⟨_, rfl⟩
    have hxp : (0 : Int) < (x : Int) := by omega
    have g1 : Int.tmod (x : Int) 10 = (d : Int) := by rw [Int.tmod_eq_emod_of_nonneg (by omega)]; omega
    have g2 : (x : Int) % 10 = (d : Int) := by omega
    have g3 : Int.tdiv (x : Int) 10 = (y : Int) := by rw [Int.tdiv_eq_ediv_of_nonneg (by omega)]; omega
    have g4 : (x : Int) / 10 = (y : Int) := by omega
    have g7 : IntKind.u64.wrap (y : Int) = (y : Int) := by rw [IntKind.wrap_u64]; omega
    have hyu : y ≤ u := by omega
    have g6 : IntKind.u8.wrap (d : Int) = (d : Int) := by rw [IntKind.wrap_u8]; omega
    have hyf : y < 10 ^ f := by rw [Nat.pow_succ] at hxf; omega
    have hacc2 : (acc ++ [d]) ++ Fl.digL y = Fl.digL u := by rw [← hacc, Fl.digL_pos hx0, hd, hy, List.append_assoc]; rfl
    have HH := Lib.hid (And.intro hacc2 (And.intro hyf hn))
    have HHA := Lib.hid hA
    have HHB := Lib.hid hB
    have HX := Lib.hid hX
    clear hd hy hacc hacc2 hxf hyf hn hA hB hX hx0
    go_wp2_with (at_builtin; refine wpList_append_own _ rfl _ _ 31 rfl (X + 2) 5 i0 (.int .u8 0) 1 1 Tryz.underlying31 hi hz0 hz1 hz2 rfl (by decide) _ _ _ rfl (hown.alloc _) ⟨wr.heap.size, 0, none⟩ 1 1 [.int .u8 (d : Int)] rfl rfl ?c1 ?c2 ?c3 ?c4 ?c5 ?_)
    case c1 =>
     intro j u' hj
     match j, hj with
     | 0, hj => simp at hj; subst hj; simp [Addr.add]
    case c2 => intro u' hu'; simp at hu'; subst hu'; rfl
    case c3 => unfold maxLen; omega
    case c4 => omega
    case c5 => simp; omega
    intro v' w3 hown3 hgr3 _
    have hb3 : Below (X + 2) wr w3 := ((Below.refl _ _).alloc (by omega) _).grown hgr3 (by simp; omega) (fun k hk => (hown.lt k hk).1)
    obtain ⟨A', cp', rfl⟩ := own_form hown3
    have hB3 := (hb3.block (X + 1) (by omega)).trans HHB.out
    have hA3 := (hb3.block X (by omega)).trans HHA.out
    have y1 := at_block hB3 1 _ rfl
    have fy1 := free_block hB3 1
    have HB3 := Lib.hid hB3
    have HA3 := Lib.hid hA3
    have HOW3 := Lib.hid hown3
    clear hgr3 hown hown3 hB3 hA3 z1
    go_wp2_with fail
    go_roundg f
    case measure => omega
    case rel =>
     have k1 := HH.out.2.2
     refine ⟨y, .slice A' (n + 1) cp', acc ++ [d], rfl, hyu, HH.out.2.1, HH.out.1, by rw [List.length_append, k1]; simp; omega, ?_, ?_, ?_, ?_, ?_⟩
     · rw [Below.heap_setCell _ _ _ _ (show X ≠ X + 1 by omega)]; exact HA3.out
     · exact block_set HB3.out 1 _
     · have h := own_heap (w' := w3.setCell ⟨X + 1, 1, none⟩ (.slice A' (n + 1) cp')) HOW3.out (fun k hk1 _ => by rw [Below.heap_setCell _ _ _ _ (show k ≠ X + 1 by omega)])
       rw [List.length_append, k1]
       have e : u8s (acc ++ [d]) = u8s acc ++ [.int .u8 (d : Int)] := by simp [u8s]
       rw [e]
       exact h
     · have := hb3.size; simp [World.setCell]; omega
     · exact (hbx.trans (hb3.mono (by omega))).setCell (p := ⟨X + 1, 1, none⟩) (by show X ≤ X + 1; omega) _
namespace Fl
def pm (neg : Bool) : List Nat := if neg = true then [45] else []
def intN (neg : Bool) (l : List Nat) : List Nat := pm neg ++ l.reverse.map (48 + ·)
end Fl
theorem inttext_any (neg : Bool) (A : Option Addr) (n c : Nat) (l : List Nat) (w : World) (hr : Reads w w.heap.size A n (u8s l)) (hd : ∀ x ∈ l, x < 10) (hn : n ≤ 100000) (hn0 : 0 < n) :
 Calls Tryz.prog 19 #[.agg #[.bool neg, .slice A n c]] w fun x w' => x = .returned (.string ⟨((Fl.intN neg l).map UInt8.ofNat).toArray⟩) ∧ Below w.heap.size w w' := by
 have hln : l.length = n := by have := hr.1; rwa [u8s_len] at this
 obtain ⟨i0, hi, hz0, hz1, hz2⟩ := info_parts info5
 obtain ⟨w2, hw2⟩ : ∃ w2 : World, w.alloc (.cells #[.bool neg, .slice A n c] 33) = w2 := ⟨_, rfl⟩
 obtain ⟨X, hX⟩ : ∃ X, w.heap.size = X := ⟨_, rfl⟩
 have hXc := heap_alloc_new w (.cells #[.bool neg, .slice A n c] 33)
 have hb2 : Below w.heap.size w w2 := by rw [← hw2]; exact (Below.refl _ _).alloc (Nat.le_refl _) _
 have hs2 : w2.heap.size = X + 1 := by rw [← hw2, ← hX]; simp
 rw [hw2, hX] at hXc
 have hr2 := hr.below hb2
 rw [hX] at hb2 hr2
 have hn1 : ((n : Int) == 0) = false := by rw [beq_eq_false_iff_ne]; omega
 have hw1 : IntKind.i64.wrap ((n : Int) - 1) = (n : Int) - 1 := IntWalk.i64_in _ (by omega)
 have HC : ∀ W, Below (X + 1) w2 W → W.cell? ⟨X, 0, none⟩ = some (.bool neg) ∧ W.cell? ⟨X, 1, none⟩ = some (.slice A n c) := fun W hW => by
  have h := (hW.block X (by omega)).trans hXc
  exact ⟨at_block h 0 _ rfl, at_block h 1 _ rfl⟩
 have HC := Lib.hid HC
 have HW2 := Lib.hid hw2
 have HX := Lib.hid hX
 have HLN := Lib.hid hln
 have hdd : Below (X + 1) w2 w2 := Below.refl _ _
 obtain ⟨x0, x1⟩ := HC.out w2 hdd
 have HS2 := Lib.hid hs2
 clear hw2 hX hXc hr hln hs2
 go_enter Tryz.func19, Tryz.ntmps19
 go_upto_region 1 with fail
 rw [HW2.out, HX.out]
 go_upto_if 10 with fail
 go_cut [3] (fun v wx => wx.ownsRow (X + 1) 5 1 v (Fl.pm neg).length (u8s (Fl.pm neg)) ∧ Below (X + 1) w2 wx)
 case first =>
  cases neg with
  | true =>
    have hnil : w2.ownsRow (X + 1) 5 1 (.slice none 0 0) 0 [] := World.ownsRow_nil _ _ _ _
    go_wp2_with (at_builtin; refine wpList_append_own _ rfl _ _ 31 rfl (X + 1) 5 i0 (.int .u8 0) 1 1 Tryz.underlying31 hi hz0 hz1 hz2 rfl (by decide) _ _ _ rfl (hnil.alloc _) ⟨w2.heap.size, 0, none⟩ 1 1 [.int .u8 45] rfl rfl ?c1 ?c2 ?c3 ?c4 ?c5 ?_)
    case c1 =>
     intro j u' hj
     match j, hj with
     | 0, hj => simp at hj; subst hj; simp [Addr.add]
    case c2 => intro u' hu'; simp at hu'; subst hu'; rfl
    case c3 => unfold maxLen; omega
    case c4 => omega
    case c5 => have := HS2.out; simp; omega
    intro v' w3 hown3 hgr3 _
    have hb3 : Below (X + 1) w2 w3 := ((Below.refl _ _).alloc (by have := HS2.out; omega) _).grown hgr3 (by have := HS2.out; simp; omega) (fun k hk => by simp [Value.ownBlock] at hk)
    go_wp2_with fail
    go_meet
    exact ⟨hown3, hb3⟩
  | false =>
    go_wp2_with fail
    go_meet
    exact ⟨World.ownsRow_nil _ _ _ _, hdd⟩
 case rest =>
  obtain ⟨hown, hb3⟩ := hcut
  obtain ⟨w3, hw3⟩ : ∃ W, W = wc := ⟨_, rfl⟩
  subst hw3
  obtain ⟨P, hP⟩ : ∃ P, Fl.pm neg = P := ⟨_, rfl⟩
  have hPl : P.length ≤ 1 := by rw [← hP]; unfold Fl.pm; split <;> simp
  rw [hP] at hown
  have HP := Lib.hid hP
  have hX1 : X + 1 ≤ w3.heap.size := by have := hb3.size; rw [HS2.out] at this; exact this
  clear x0 x1 hP
  obtain ⟨x0, x1⟩ := HC.out w3 hb3
  obtain ⟨A3, c3, rfl⟩ := own_form hown
  obtain ⟨p, hp⟩ : ∃ p, P.length = p := ⟨_, rfl⟩
  rw [hp] at hown hPl ⊢
  have HPP := Lib.hid hp
  clear hp
  go_wp2_with fail
  go_loopg [3, 4] n (fun f t3 t4 wx => ∃ (q k : Nat) (j : Int) (v : Value), t3 = v ∧ t4 = .int .i64 j ∧ j = (q : Int) - 1 ∧ q ≤ n ∧ q ≤ f ∧ k + q = p + n ∧ wx.ownsRow (X + 1) 5 1 v k (u8s (P ++ (l.drop q).reverse.map (48 + ·))) ∧ X + 1 ≤ wx.heap.size ∧ Below (X + 1) w2 wx)
  case atStart =>
   refine ⟨n, p, (n : Int) - 1, _, rfl, rfl, rfl, Nat.le_refl _, Nat.le_refl _, rfl, ?_, hX1, hb3⟩
   rw [List.drop_eq_nil_of_le (by rw [HLN.out]; exact Nat.le_refl _)]
   simpa using hown
  case round =>
   obtain ⟨q, k, j, v, rfl, rfl, hj, hqn, hqf, hkq, hown4, hX4, hbx⟩ := hrel
   clear x0 x1
   obtain ⟨x0, x1⟩ := HC.out wr hbx
   cases q with
   | zero =>
     obtain rfl : j = -1 := by omega
     obtain ⟨A4, c4, rfl⟩ := own_form hown4
     have hrd := Reads.of_own hown4
     rw [List.drop_zero] at hrd
     have hk0 : 0 < k := by omega
     have hcv := conv_bytes (c := c4) hrd (fun h => by omega)
     have e : P ++ l.reverse.map (48 + ·) = Fl.intN neg l := by rw [Fl.intN, HP.out]
     rw [e] at hcv
     obtain ⟨T, hT⟩ : ∃ T : ByteArray, ⟨((Fl.intN neg l).map UInt8.ofNat).toArray⟩ = T := ⟨_, rfl⟩
     rw [hT] at hcv
     have HT := Lib.hid hT
     clear hown hown4 hrd e hT hj
     go_wp2_with fail
     go_ret
     refine ⟨by rw [HT.out]; rfl, ?_⟩
     rw [HX.out]
     exact hb2.trans (hbx.mono (by omega))
   | succ r =>
     obtain ⟨f, rfl⟩ : ∃ f, gk = f + 1 := ⟨gk - 1, by omega⟩
     obtain rfl : j = (r : Int) := by omega
     have hrn : r < n := by omega
     have hr0 : (0 : Int) ≤ (r : Int) := by omega
     have hrni : (r : Int) < (n : Int) := by omega
     obtain ⟨b, off, u, rfl, _, hu, hcell⟩ := (hr2.below (hbx.mono (by omega))).at_ (k := r) hrn
     obtain ⟨d, hd1, rfl⟩ := u8_at hu
     have hd10 : d < 10 := hd d (List.mem_of_getElem? hd1)
     obtain ⟨D, hD⟩ : ∃ D, 48 + d = D := ⟨_, rfl⟩
     have hDi : (48 : Int) + (d : Int) = (D : Int) := by omega
     have hDw : IntKind.u8.wrap (D : Int) = (D : Int) := by rw [IntKind.wrap_u8]; omega
     have hrw : IntKind.i64.wrap ((r : Int) - 1) = (r : Int) - 1 := IntWalk.i64_in _ (by omega)
     have hstep : P ++ (l.drop r).reverse.map (48 + ·) = (P ++ (l.drop (r + 1)).reverse.map (48 + ·)) ++ [D] := by
      obtain ⟨h1, h2⟩ := List.getElem?_eq_some_iff.1 hd1
      rw [List.drop_eq_getElem_cons h1, h2, List.reverse_cons, List.map_append, ← hD, List.append_assoc]
      rfl
     have HST := Lib.hid hstep
     have HH := Lib.hid (And.intro hd1 hu)
     clear hstep hd1 hu hD hj
     go_wp2_with (at_builtin; refine wpList_append_own _ rfl _ _ 31 rfl (X + 1) 5 i0 (.int .u8 0) 1 1 Tryz.underlying31 hi hz0 hz1 hz2 rfl (by decide) _ _ _ rfl (hown4.alloc _) ⟨wr.heap.size, 0, none⟩ 1 1 [.int .u8 (D : Int)] rfl rfl ?c1 ?c2 ?c3 ?c4 ?c5 ?_)
     case c2 => rfl
     case c3 => unfold maxLen; omega
     case c4 => omega
     case c5 => first | omega | (simp; omega)
     intro v' w5 hown5 hgr5 _
     have hb5 : Below (X + 1) wr w5 := ((Below.refl _ _).alloc hX4 _).grown hgr5 (by simp; omega) (fun k hk => (hown4.lt k hk).1)
     have HOW5 := Lib.hid hown5
     clear hgr5 hown4 hown5 hcell
     go_wp2_with fail
     go_roundg f
     case measure => omega
     case rel =>
      refine ⟨r, k + 1, (r : Int) - 1, v', rfl, rfl, rfl, by omega, by omega, by omega, ?_, by have := hb5.size; omega, hbx.trans hb5⟩
      rw [HST.out]
      have e : ∀ a : List Nat, u8s (a ++ [D]) = u8s a ++ [.int .u8 (D : Int)] := fun a => by simp [u8s]
      rw [e]
      have h := HOW5.out
      simpa using h
theorem trim_id (A : Option Addr) (n c : Nat) (l : List Nat) (d : Nat) (w : World) (hr : Reads w w.heap.size A n (u8s l)) (hn0 : 0 < n) (hn : n ≤ c) (hc : n ≤ 1073741824) (hl : l[n - 1]? = some d) (hd : d ≠ 0) :
 Calls Tryz.prog 85 #[.slice A n c] w fun x w' => x = .returned (.slice A n c) ∧ w' = w := by
 obtain ⟨b, off, u, rfl, _, hu, hcell⟩ := hr.at_ (k := n - 1) (by omega)
 obtain ⟨x, hx, rfl⟩ := u8_at hu
 obtain rfl : x = d := by rw [hl] at hx; exact (Option.some.inj hx).symm
 obtain ⟨q, rfl⟩ : ∃ q, n = q + 1 := ⟨n - 1, by omega⟩
 rw [Nat.add_sub_cancel] at hcell
 have h1 : (0 : Int) < ((q + 1 : Nat) : Int) := by omega
 have h2 : IntKind.i64.wrap (((q + 1 : Nat) : Int) - 1) = (q : Int) := by have := IntWalk.i64_in (((q + 1 : Nat) : Int) - 1) (by omega); rw [this]; omega
 have h3 : ((x : Int) == 0) = false := by rw [beq_eq_false_iff_ne]; omega
 have h4 : (0 : Int) ≤ (q : Int) := by omega
 have h5 : (q : Int) < ((q + 1 : Nat) : Int) := by omega
 obtain ⟨N, hN⟩ : ∃ N, q + 1 = N := ⟨_, rfl⟩
 rw [hN] at h1 h2 h5 hn ⊢
 have h6 : (N : Int) ≤ (c : Int) := by omega
 clear hr hu hl hx hd hN hn0
 go_enter Tryz.func85, Tryz.ntmps85
 go_wp2_with fail
 go_loopg [3] 1 (fun f t wx => t = .int .i64 (N : Int) ∧ wx = w)
 case atStart => exact ⟨rfl, rfl⟩
 case round =>
  obtain ⟨rfl, rfl⟩ := hrel
  go_wp2_with fail
  go_ret
  exact ⟨rfl, rfl⟩
theorem signed_id (A : Option Addr) (n c : Nat) (l : List Nat) (d : Nat) (neg : Bool) (w : World) (hr : Reads w w.heap.size A n (u8s l)) (hn0 : 0 < n) (hn : n ≤ c) (hc : n ≤ 1073741824) (hl : l[n - 1]? = some d) (hd : d ≠ 0) :
 Calls Tryz.prog 97 #[.slice A n c, .bool neg] w fun x w' => x = .returned (.agg #[.bool neg, .slice A n c]) ∧ Below w.heap.size w w' := by
 have TR := fun W hW => trim_id A n c l d W hW hn0 hn hc hl hd
 have hi : (0 : Int) < (n : Int) := by omega
 obtain ⟨w2, hw2⟩ : ∃ w2 : World, w.alloc (.cells #[.bool false, .slice none 0 0] 33) = w2 := ⟨_, rfl⟩
 obtain ⟨X, hX⟩ : ∃ X, w.heap.size = X := ⟨_, rfl⟩
 have hXc := heap_alloc_new w (.cells #[.bool false, .slice none 0 0] 33)
 have hb2 : Below w.heap.size w w2 := by rw [← hw2]; exact (Below.refl _ _).alloc (Nat.le_refl _) _
 rw [hw2, hX] at hXc
 have hr2 := hr.on hb2
 rw [hX] at hb2
 have HW2 := Lib.hid hw2
 have HX := Lib.hid hX
 have TR := Lib.hid (TR w2 hr2)
 have x0 := at_block hXc 0 _ rfl
 have x1 := at_block hXc 1 _ rfl
 have f0 := free_block hXc 0
 have f1 := free_block hXc 1
 clear hw2 hX hXc hr hr2
 go_enter Tryz.func97, Tryz.ntmps97
 go_upto_region 1 with fail
 rw [HW2.out, HX.out]
 go_wp2_with fail
 refine (TR.out).mono ?_
 rintro x w3 ⟨rfl, rfl⟩
 cases neg with
 | true =>
   go_wp2_with fail
   refine bodyPost_ret (v := .agg #[.bool true, .slice A n c]) (by simp [results, Tryz.results97, go_sem, x0, x1]) rfl ?_
   refine ⟨rfl, ?_⟩
   rw [HX.out]
   exact (hb2.setCell (p := ⟨X, 0, none⟩) (Nat.le_refl _) _).setCell (p := ⟨X, 1, none⟩) (Nat.le_refl _) _
 | false =>
   go_wp2_with fail
   refine bodyPost_ret (v := .agg #[.bool false, .slice A n c]) (by simp [results, Tryz.results97, go_sem, x0, x1]) rfl ?_
   refine ⟨rfl, ?_⟩
   rw [HX.out]
   exact (hb2.setCell (p := ⟨X, 0, none⟩) (Nat.le_refl _) _).setCell (p := ⟨X, 1, none⟩) (Nat.le_refl _) _
namespace Fl
theorem digL_facts : ∀ {u : Nat}, u ≠ 0 → (0 < (digL u).length ∧ (digL u).length ≤ u ∧ (∀ x ∈ digL u, x < 10) ∧ (∃ d, (digL u)[(digL u).length - 1]? = some d ∧ d ≠ 0) ∧ decDigits u = (digL u).reverse.map fun x => UInt8.ofNat (48 + x)) := by
 intro u
 induction u using Nat.strongRecOn with
 | _ u ih =>
   intro h
   rw [digL_pos h]
   by_cases h2 : u / 10 = 0
   · rw [h2, digL_zero]
     refine ⟨by simp, by simp; omega, ?_, ⟨u % 10, by simp, by omega⟩, ?_⟩
     · intro x hx
       simp at hx
       omega
     · rw [decDigits_one (show u < 10 by omega), show u % 10 = u by omega]
       rfl
   · obtain ⟨a1, a2, a3, ⟨d, a4, a5⟩, a6⟩ := ih (u / 10) (by omega) h2
     refine ⟨by simp, by rw [List.length_cons]; omega, ?_, ⟨d, ?_, a5⟩, ?_⟩
     · intro x hx
       rcases List.mem_cons.1 hx with rfl | hx
       · omega
       · exact a3 x hx
     · rw [List.length_cons, Nat.add_sub_cancel]
       obtain ⟨k, hk⟩ : ∃ k, (digL (u / 10)).length = k + 1 := ⟨(digL (u / 10)).length - 1, by omega⟩
       rw [hk, List.getElem?_cons_succ]
       rw [hk, Nat.add_sub_cancel] at a4
       exact a4
     · rw [decDigits, dif_neg (by omega), a6, List.reverse_cons, List.map_append]
       rfl
theorem intN_is {u : Nat} (h : u ≠ 0) (neg : Bool) : ((intN neg (digL u)).map UInt8.ofNat) = (if neg = true then [45] else []) ++ decDigits u := by
 rw [(digL_facts h).2.2.2.2]
 unfold intN pm
 cases neg <;> simp
end Fl
theorem inttext_zero (neg : Bool) (A : Option Addr) (c : Nat) (w : World) : Calls Tryz.prog 19 #[.agg #[.bool neg, .slice A 0 c]] w fun x w' => x = .returned (.string ⟨#[48]⟩) ∧ Below w.heap.size w w' := by
 go_enter Tryz.func19, Tryz.ntmps19
 go_wp2_with fail
 go_ret
 exact ⟨rfl, (Below.refl _ _).alloc (Nat.le_refl _) _⟩
theorem ofText (u : Nat) (hu : u < 18446744073709551616) (w : World) : Calls Tryz.prog 50 #[.int .u64 (u : Int)] w fun x w' => ∃ A n c, x = .returned (.agg #[.bool false, .slice A n c]) ∧ Below w.heap.size w w' ∧
 (∀ W, Below w'.heap.size w' W → Calls Tryz.prog 19 #[.agg #[.bool false, .slice A n c]] W fun y W' => y = .returned (.string ⟨(decDigits u).toArray⟩) ∧ Below W.heap.size W W') ∧
 (u ≠ 0 → ∀ W, Below w'.heap.size w' W → Calls Tryz.prog 97 #[.slice A n c, .bool true] W fun y W' => y = .returned (.agg #[.bool true, .slice A n c]) ∧ Below W.heap.size W W') ∧
 (u ≠ 0 → ∀ W, Below w'.heap.size w' W → Calls Tryz.prog 19 #[.agg #[.bool true, .slice A n c]] W fun y W' => y = .returned (.string ⟨(45 :: decDigits u).toArray⟩) ∧ Below W.heap.size W W') := by
 refine (of64_any u w hu).mono ?_
 rintro x w' ⟨v, rfl, ho, hb⟩
 obtain ⟨A, c, rfl, hnc, hr⟩ := own_slice ho
 refine ⟨A, _, c, rfl, hb, fun W hW => ?_, fun h0 W hW => ?_, fun h0 W hW => ?_⟩
 · by_cases h0 : u = 0
   · subst h0
     rw [Fl.digL_zero]
     have h := inttext_zero false A c W
     rw [show (⟨#[48]⟩ : ByteArray) = ⟨(decDigits 0).toArray⟩ by rw [decDigits_one (by omega)]; rfl] at h
     exact h
   · obtain ⟨a1, a2, a3, _, _⟩ := Fl.digL_facts h0
     have hlen : (Fl.digL u).length ≤ 100000 := by
      have h1 := (Fl.digL_facts h0).2.2.2.2
      have h2 := congrArg List.length h1
      rw [List.length_map, List.length_reverse, Lib.decDigits_length] at h2
      have := Lib.numDigits_eq u (by omega) hu
      split at this <;> omega
     have h := inttext_any false A _ c (Fl.digL u) W (hr.on hW) a3 hlen a1
     rw [Fl.intN_is h0] at h
     exact h
 · obtain ⟨a1, a2, a3, ⟨d, a4, a5⟩, _⟩ := Fl.digL_facts h0
   have hlen : (Fl.digL u).length ≤ 1073741824 := by
    have h1 := (Fl.digL_facts h0).2.2.2.2
    have h2 := congrArg List.length h1
    rw [List.length_map, List.length_reverse, Lib.decDigits_length] at h2
    have := Lib.numDigits_eq u (by omega) hu
    split at this <;> omega
   exact signed_id A _ c (Fl.digL u) d true W (hr.on hW) a1 hnc hlen a4 a5
 · obtain ⟨a1, a2, a3, _, _⟩ := Fl.digL_facts h0
   have hlen : (Fl.digL u).length ≤ 100000 := by
    have h1 := (Fl.digL_facts h0).2.2.2.2
    have h2 := congrArg List.length h1
    rw [List.length_map, List.length_reverse, Lib.decDigits_length] at h2
    have := Lib.numDigits_eq u (by omega) hu
    split at this <;> omega
   have h := inttext_any true A _ c (Fl.digL u) W (hr.on hW) a3 hlen a1
   rw [Fl.intN_is h0] at h
   exact h
theorem two_blocks (w : World) (o o' : Obj) : ((w.alloc o).alloc o').heap[w.heap.size]? = some o ∧ ((w.alloc o).alloc o').heap[w.heap.size + 1]? = some o' ∧ Below w.heap.size w ((w.alloc o).alloc o') ∧ ((w.alloc o).alloc o').heap.size = w.heap.size + 2 := by
 refine ⟨?_, ?_, ((Below.refl _ _).alloc (Nat.le_refl _) _).alloc (by simp) _, by simp⟩
 · rw [Below.heap_alloc _ _ _ (by simp)]; exact heap_alloc_new w _
 · have := heap_alloc_new (w.alloc o) o'
   simpa using this
theorem small_any (e : Int) (w : World) (he : -1000000 ≤ e ∧ e ≤ 1000000) : Calls Tryz.prog 51 #[.int .i64 e] w fun x w' => x = .returned (.string ⟨(itoa e).toArray⟩) ∧ Below w.heap.size w w' := by
 by_cases h : e < 0
 · obtain ⟨u, hu⟩ : ∃ u : Nat, -e = (u : Int) := ⟨(-e).toNat, by omega⟩
   have c1 : decide (e < 0) = true := decide_eq_true h
   have g1 : IntKind.i64.wrap (-e) = (u : Int) := by rw [hu]; exact IntWalk.i64_in _ (by omega)
   have g2 : IntKind.u64.wrap (u : Int) = (u : Int) := by rw [IntKind.wrap_u64]; omega
   have OT := Lib.hid (fun W => ofText u (by omega) W)
   have hne : u ≠ 0 := by omega
   have hit : itoa e = 45 :: decDigits u := by rw [show e = -(u : Int) by omega]; exact itoa_neg u (by omega)
   rw [hit]
   have HNE := Lib.hid hne
   clear hu he h hne hit
   go_enter Tryz.func51, Tryz.ntmps51
   go_wp2_with fail
   refine (OT.out _).mono ?_
   rintro x w1 ⟨A, n, c, rfl, hb1, k1, k2, k3⟩
   have K2 := k2 HNE.out
   have K3 := Lib.hid (k3 HNE.out)
   have NG : Calls Tryz.prog 96 #[.agg #[.bool false, .slice A n c]] w1 fun y W' => y = .returned (.agg #[.bool true, .slice A n c]) ∧ Below w1.heap.size w1 W' := by
    obtain ⟨w2, hw2⟩ : ∃ w2 : World, (w1.alloc (.cells #[.bool false, .slice A n c] 33)).alloc (.cells #[.bool false, .slice none 0 0] 33) = w2 := ⟨_, rfl⟩
    obtain ⟨X, hX⟩ : ∃ X, w1.heap.size = X := ⟨_, rfl⟩
    have hq := two_blocks w1 (.cells #[.bool false, .slice A n c] 33) (.cells #[.bool false, .slice none 0 0] 33)
    rw [hw2, hX] at hq
    obtain ⟨q1, q2, hbb, hss⟩ := hq
    have x0 := at_block q1 0 _ rfl
    have x1 := at_block q1 1 _ rfl
    have SG := Lib.hid (K2 w2 (by rw [hX]; exact hbb))
    have HW2 := Lib.hid hw2
    have HX := Lib.hid hX
    have HSS := Lib.hid hss
    have Q2 := Lib.hid q2
    clear hw2 hX q1 q2 k1 k2 k3 K2 hss
    go_enter Tryz.func96, Tryz.ntmps96
    go_upto_region 1 with fail
    rw [HW2.out, HX.out]
    go_wp2_with fail
    refine (SG.out).mono ?_
    rintro y w3 ⟨rfl, hb3⟩
    have q3 := (hb3.block (X + 1) (by rw [HSS.out]; omega)).trans Q2.out
    have z0 := at_block q3 0 _ rfl
    have z1 := at_block q3 1 _ rfl
    have f0 := free_block q3 0
    have f1 := free_block q3 1
    clear q3
    go_wp2_with fail
    refine bodyPost_ret (v := .agg #[.bool true, .slice A n c]) (by simp [results, Tryz.results96, go_sem, z0, z1]) rfl ?_
    refine ⟨rfl, ?_⟩
    have hb4 : Below X w1 w3 := hbb.trans (hb3.mono (by rw [HSS.out]; omega))
    rw [HX.out]
    exact (hb4.setCell (p := ⟨X + 1, 0, none⟩) (by show X ≤ X + 1; omega) _).setCell (p := ⟨X + 1, 1, none⟩) (by show X ≤ X + 1; omega) _
   have NG := Lib.hid NG
   clear k1 k2 k3 K2
   go_wp2_with fail
   refine (NG.out).mono ?_
   rintro x w2 ⟨rfl, hb2⟩
   go_wp2_with fail
   refine (K3.out _ hb2).mono ?_
   rintro x w3 ⟨rfl, hb3⟩
   go_wp2_with fail
   go_ret
   have hb12 := hb1.trans (hb2.mono hb1.size)
   exact ⟨rfl, hb12.trans (hb3.mono hb12.size)⟩
 · obtain ⟨u, rfl⟩ : ∃ u : Nat, e = (u : Int) := ⟨e.toNat, by omega⟩
   have g2 : IntKind.u64.wrap (u : Int) = (u : Int) := by rw [IntKind.wrap_u64]; omega
   have OT := Lib.hid (fun W => ofText u (by omega) W)
   rw [itoa_nonneg]
   have c1 : decide ((u : Int) < 0) = false := decide_eq_false h
   clear he h
   go_enter Tryz.func51, Tryz.ntmps51
   go_wp2_with fail
   refine (OT.out _).mono ?_
   rintro x w1 ⟨A, n, c, rfl, hb1, k1, _, _⟩
   have K1 := Lib.hid k1
   clear k1
   go_wp2_with fail
   refine (K1.out _ (Below.refl _ _)).mono ?_
   rintro x w3 ⟨rfl, hb3⟩
   go_wp2_with fail
   go_ret
   exact ⟨rfl, hb1.trans (hb3.mono hb1.size)⟩
end Go.Proofs.YtjapgpmoojfhnaaGreatDoor
