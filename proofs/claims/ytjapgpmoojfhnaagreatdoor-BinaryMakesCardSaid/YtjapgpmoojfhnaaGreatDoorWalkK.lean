/- The reference: odd. The reference: of64. -/
import Derived.Test.YtjapgpmoojfhnaaGreatDoorWalkI
import Derived.Deep.LoopGhost
namespace Go.Proofs.YtjapgpmoojfhnaaGreatDoor
open Go.RowKit Go.Lib

set_option maxHeartbeats 1000000 in
set_option maxRecDepth 100000 in
theorem odd_zero (neg : Bool) (e : Int) (w : World) : Calls Tryz.prog 45 #[.bool neg, .int .u64 0, .int .i64 e] w fun x w' => x = .returned (.agg #[.int .i64 0, .bool neg, .int .u64 0, .int .i64 0]) ∧ Below w.heap.size w w' := by
  go_enter Tryz.func45, Tryz.ntmps45
  go_wp2_with fail
  have hX := heap_alloc_new w (.cells #[.int .i64 0, .bool neg, .int .u64 0, .int .i64 0] 24)
  have z0 := at_block hX 0 _ rfl
  have z1 := at_block hX 1 _ rfl
  have z2 := at_block hX 2 _ rfl
  have z3 := at_block hX 3 _ rfl
  refine bodyPost_ret (v := .agg #[.int .i64 0, .bool neg, .int .u64 0, .int .i64 0]) (by simp [results, Tryz.results45, go_sem, z0, z1, z2, z3]) rfl ?_
  exact ⟨rfl, (Below.refl _ _).alloc (Nat.le_refl _) _⟩
set_option maxHeartbeats 1000000 in
set_option maxRecDepth 100000 in
theorem odd_pos (neg : Bool) (c z : Nat) (e : Int) (w : World) (hc : c % 2 = 1) (hz : z < 64) (hm : c * 2 ^ z < 9007199254740992) (he : -10000 ≤ e ∧ e ≤ 10000) :
    Calls Tryz.prog 45 #[.bool neg, .int .u64 ((c * 2 ^ z : Nat) : Int), .int .i64 e] w fun x w' => x = .returned (.agg #[.int .i64 0, .bool neg, .int .u64 (c : Int), .int .i64 (e + (z : Int))]) ∧ Below w.heap.size w w' := by
  have hc0 : 0 < c := by omega
  have hcm : c ≤ c * 2 ^ z := Nat.le_mul_of_pos_right _ (Nat.two_pow_pos _)
  obtain ⟨m, hmm⟩ : ∃ m, c * 2 ^ z = m := ⟨_, rfl⟩
  rw [hmm] at hm hcm ⊢
  have hm0 : ((m : Int) == 0) = false := by rw [beq_eq_false_iff_ne]; omega
  have HM := Lib.hid hmm
  clear hmm
  go_enter Tryz.func45, Tryz.ntmps45
  go_wp2_with fail
  go_loopg [1, 2] z (fun f t1 t2 wx => ∃ (k M : Nat), t1 = .int .u64 (M : Int) ∧ t2 = .int .i64 (e + (k : Int)) ∧ k + f = z ∧ M = c * 2 ^ f ∧ M ≤ m ∧ wx.heap[w.heap.size]? = some (.cells #[.int .i64 0, .bool false, .int .u64 0, .int .i64 0] 24 (0, 0)) ∧ Below w.heap.size w wx)
  case atStart =>
    exact ⟨0, m, rfl, by simp, by omega, HM.out.symm, Nat.le_refl _, heap_alloc_new w _, (Below.refl _ _).alloc (Nat.le_refl _) _⟩
  case round =>
    obtain ⟨k, M, rfl, rfl, hk, hM, hMm, hX, hbx⟩ := hrel
    cases gk with
    | zero =>
      obtain rfl : M = c := by rw [hM, Nat.pow_zero, Nat.mul_one]
      have g1 : Int.tmod (M : Int) 2 = 1 := by rw [Int.tmod_eq_emod_of_nonneg (by omega)]; omega
      have g2 : (M : Int) % 2 = 1 := by omega
      obtain rfl : k = z := by omega
      have z0 := at_block hX 0 _ rfl
      have z1 := at_block hX 1 _ rfl
      have z2 := at_block hX 2 _ rfl
      have z3 := at_block hX 3 _ rfl
      have f0 := free_block hX 0
      have f1 := free_block hX 1
      have f2 := free_block hX 2
      have f3 := free_block hX 3
      have HX := Lib.hid hX
      clear hM hMm hX hc hm hcm hm0 hc0
      go_wp2_with fail
      refine bodyPost_ret (v := .agg #[.int .i64 0, .bool neg, .int .u64 (M : Int), .int .i64 (e + (k : Int))]) (by simp [results, Tryz.results45, go_sem, z0, z1, z2, z3]) rfl ?_
      refine ⟨rfl, ?_⟩
      exact (((hbx.setCell (p := ⟨w.heap.size, 0, none⟩) (Nat.le_refl _) _).setCell (p := ⟨w.heap.size, 1, none⟩) (Nat.le_refl _) _).setCell (p := ⟨w.heap.size, 2, none⟩) (Nat.le_refl _) _).setCell (p := ⟨w.heap.size, 3, none⟩) (Nat.le_refl _) _
    | succ f =>
      obtain ⟨N, hN⟩ : ∃ N, c * 2 ^ f = N := ⟨_, rfl⟩
      have hMN : M = 2 * N := by rw [hM, Nat.pow_succ, ← Nat.mul_assoc, hN, Nat.mul_comm]
      have g1 : Int.tmod (M : Int) 2 = 0 := by rw [Int.tmod_eq_emod_of_nonneg (by omega)]; omega
      have g2 : (M : Int) % 2 = 0 := by omega
      have g3 : Int.tdiv (M : Int) 2 = (N : Int) := by rw [Int.tdiv_eq_ediv_of_nonneg (by omega)]; omega
      have g4 : (M : Int) / 2 = (N : Int) := by omega
      have g5 : IntKind.u64.wrap (N : Int) = (N : Int) := by rw [IntKind.wrap_u64]; omega
      have g6 : IntKind.i64.wrap (e + (k : Int) + 1) = e + (k : Int) + 1 := IntWalk.i64_in _ (by omega)
      have HH := Lib.hid (And.intro hN (And.intro hX hMm))
      have HMN := Lib.hid hMN
      clear hM hMm hX hN hMN hm0 hcm hc0
      go_wp2_with fail
      go_roundg f
      case measure => omega
      case rel =>
        have := HMN.out
        exact ⟨k + 1, N, rfl, by congr 1; omega, by omega, HH.out.1.symm, by have := HH.out.2.2; omega, HH.out.2.1, hbx⟩
end Go.Proofs.YtjapgpmoojfhnaaGreatDoor

namespace Go.Proofs.YtjapgpmoojfhnaaGreatDoor
open Go.RowKit Go.Lib

/-- Digits, least significant first. -/
def Fl.digL (u : Nat) : List Nat := if h : u = 0 then [] else (u % 10) :: Fl.digL (u / 10)
termination_by u
decreasing_by omega
theorem Fl.digL_zero : Fl.digL 0 = [] := by rw [Fl.digL]; rfl
theorem Fl.digL_pos {u : Nat} (h : u ≠ 0) : Fl.digL u = (u % 10) :: Fl.digL (u / 10) := by rw [Fl.digL, dif_neg h]
theorem own_heap {w w' : World} {base : Nat} {e : TypeId} {v : Value} {n : Nat} {xs : List Value} (h : w.ownsRow base e 1 v n xs) (hk : ∀ k, base ≤ k → k < w.heap.size → w'.heap[k]? = w.heap[k]?) : w'.ownsRow base e 1 v n xs := by
  obtain ⟨h1, h2⟩ := h
  refine ⟨h1, ?_⟩
  rcases h2 with h2 | ⟨g, cap, cur, hv, hb, hg, hr⟩
  · exact .inl h2
  · exact .inr ⟨g, cap, cur, hv, hb, (hk g hb (lt_of_block hg)).trans hg, hr⟩
set_option maxHeartbeats 1000000 in
set_option maxRecDepth 100000 in
theorem of64_any (u : Nat) (w : World) (hu : u < 18446744073709551616) :
    Calls Tryz.prog 50 #[.int .u64 (u : Int)] w fun x w' => ∃ v, x = .returned (.agg #[.bool false, v]) ∧ w'.ownsRow (w.heap.size + 2) 5 1 v (Fl.digL u).length (u8s (Fl.digL u)) ∧ Below w.heap.size w w' := by
  obtain ⟨i0, hi, hz0, hz1, hz2⟩ := info_parts info5
  go_enter Tryz.func50, Tryz.ntmps50
  go_upto_block 0 with fail
  obtain ⟨X, hX⟩ : ∃ X, w.heap.size = X := ⟨_, rfl⟩
  obtain ⟨q1, q2⟩ : ((w.alloc (.cells #[.bool false, .slice none 0 0] 33)).alloc (.cells #[.bool false, .slice none 0 0] 33)).heap[X]? = some (.cells #[.bool false, .slice none 0 0] 33 (0, 0)) ∧ ((w.alloc (.cells #[.bool false, .slice none 0 0] 33)).alloc (.cells #[.bool false, .slice none 0 0] 33)).heap[X + 1]? = some (.cells #[.bool false, .slice none 0 0] 33 (0, 0)) := by
    refine ⟨?_, ?_⟩
    · rw [Below.heap_alloc _ _ _ (by simp; omega), ← hX]; exact heap_alloc_new w _
    · have := heap_alloc_new (w.alloc (.cells #[.bool false, .slice none 0 0] 33)) (.cells #[.bool false, .slice none 0 0] 33)
      rw [← hX]
      simpa using this
  have hb2 : Below X w ((w.alloc (.cells #[.bool false, .slice none 0 0] 33)).alloc (.cells #[.bool false, .slice none 0 0] 33)) := by rw [← hX]; exact ((Below.refl _ _).alloc (Nat.le_refl _) _).alloc (by simp) _
  have hs2 : ((w.alloc (.cells #[.bool false, .slice none 0 0] 33)).alloc (.cells #[.bool false, .slice none 0 0] 33)).heap.size = X + 2 := by rw [← hX]; simp
  obtain ⟨w2, hw2⟩ : ∃ w2, (w.alloc (.cells #[.bool false, .slice none 0 0] 33)).alloc (.cells #[.bool false, .slice none 0 0] 33) = w2 := ⟨_, rfl⟩
  rw [hw2] at q1 q2 hb2 hs2
  rw [hw2, hX]
  clear hw2
  go_wp2_with fail
  go_loopg [0] 20 (fun f t0 wx => ∃ (x : Nat) (v : Value) (acc : List Nat), t0 = .int .u64 (x : Int) ∧ x ≤ u ∧ x < 10 ^ f ∧ acc ++ Fl.digL x = Fl.digL u ∧ acc.length + f ≤ 20 ∧ wx.heap[X]? = some (.cells #[.bool false, .slice none 0 0] 33 (0, 0)) ∧ wx.heap[X + 1]? = some (.cells #[.bool false, v] 33 (0, 0)) ∧ wx.ownsRow (X + 2) 5 1 v acc.length (u8s acc) ∧ X + 2 ≤ wx.heap.size ∧ Below X w wx)
  case atStart => exact ⟨u, .slice none 0 0, [], rfl, Nat.le_refl _, by omega, rfl, by simp, q1, q2, World.ownsRow_nil _ _ _ _, by omega, hb2⟩
  case round =>
    obtain ⟨x, v, acc, rfl, hxu, hxf, hacc, hlen, hA, hB, hown, hsz, hbx⟩ := hrel
    obtain ⟨A, cp, rfl⟩ := own_form hown
    obtain ⟨n, hn⟩ : ∃ n, acc.length = n := ⟨_, rfl⟩
    rw [hn] at hown hB hlen
    have z1 := at_block hB 1 _ rfl
    by_cases hx0 : x = 0
    · subst hx0
      have hac : acc = Fl.digL u := by rw [← hacc, Fl.digL_zero, List.append_nil]
      have z0 := at_block hB 0 _ rfl
      have a0 := at_block hA 0 _ rfl
      have a1 := at_block hA 1 _ rfl
      have fa0 := free_block hA 0
      have fa1 := free_block hA 1
      have HAC := Lib.hid (And.intro hac hn)
      have HOW := Lib.hid hown
      have HHA := Lib.hid hA
      have HX := Lib.hid hX
      clear hac hacc hown hA hB hX hn
      go_wp2_with fail
      refine bodyPost_ret (v := .agg #[.bool false, .slice A n cp]) (by simp [results, Tryz.results50, go_sem, a0, a1]) rfl ?_
      rw [HX.out]
      refine ⟨_, rfl, ?_, (hbx.setCell (p := ⟨X, 0, none⟩) (Nat.le_refl _) _).setCell (p := ⟨X, 1, none⟩) (Nat.le_refl _) _⟩
      have e1 : (Fl.digL u).length = n := by rw [← HAC.out.1]; exact HAC.out.2
      rw [e1, ← HAC.out.1]
      refine own_heap HOW.out fun k hk1 _ => ?_
      rw [Below.heap_setCell _ _ _ _ (by show k ≠ X; omega), Below.heap_setCell _ _ _ _ (by show k ≠ X; omega)]
    · obtain ⟨f, rfl⟩ : ∃ f, gk = f + 1 := ⟨gk - 1, by
        rcases Nat.eq_zero_or_pos gk with h | h
        · subst h; simp at hxf; omega
        · omega⟩
      obtain ⟨d, hd⟩ : ∃ d, x % 10 = d := ⟨_, rfl⟩
      obtain ⟨y, hy⟩ : ∃ y, x / 10 = y := ⟨_, rfl⟩
      have hxp : (0 : Int) < (x : Int) := by omega
      have g1 : Int.tmod (x : Int) 10 = (d : Int) := by rw [Int.tmod_eq_emod_of_nonneg (by omega)]; omega
      have g2 : (x : Int) % 10 = (d : Int) := by omega
      have g3 : Int.tdiv (x : Int) 10 = (y : Int) := by rw [Int.tdiv_eq_ediv_of_nonneg (by omega)]; omega
      have g4 : (x : Int) / 10 = (y : Int) := by omega
      have g7 : IntKind.u64.wrap (y : Int) = (y : Int) := by rw [IntKind.wrap_u64]; omega
      have hyu : y ≤ u := by omega
      have g6 : IntKind.u8.wrap (d : Int) = (d : Int) := by rw [IntKind.wrap_u8]; omega
      have hyf : y < 10 ^ f := by rw [Nat.pow_succ] at hxf; omega
      have hacc2 : (acc ++ [d]) ++ Fl.digL y = Fl.digL u := by rw [← hacc, Fl.digL_pos hx0, hd, hy, List.append_assoc]; rfl
      have HH := Lib.hid (And.intro hacc2 (And.intro hyf hn))
      have HHA := Lib.hid hA
      have HHB := Lib.hid hB
      have HX := Lib.hid hX
      clear hd hy hacc hacc2 hxf hyf hn hA hB hX hx0
      go_wp2_with (at_builtin; refine wpList_append_own _ rfl _ _ 31 rfl (X + 2) 5 i0 (.int .u8 0) 1 1 Tryz.underlying31 hi hz0 hz1 hz2 rfl (by decide) _ _ _ rfl (hown.alloc _) ⟨wr.heap.size, 0, none⟩ 1 1 [.int .u8 (d : Int)] rfl rfl ?c1 ?c2 ?c3 ?c4 ?c5 ?_)
      case c1 =>
        intro j u' hj
        match j, hj with
        | 0, hj => simp at hj; subst hj; simp [Addr.add]
      case c2 => intro u' hu'; simp at hu'; subst hu'; rfl
      case c3 => unfold maxLen; omega
      case c4 => omega
      case c5 => simp; omega
      intro v' w3 hown3 hgr3 _
      have hb3 : Below (X + 2) wr w3 := ((Below.refl _ _).alloc (by omega) _).grown hgr3 (by simp; omega) (fun k hk => (hown.lt k hk).1)
      obtain ⟨A', cp', rfl⟩ := own_form hown3
      have hB3 := (hb3.block (X + 1) (by omega)).trans HHB.out
      have hA3 := (hb3.block X (by omega)).trans HHA.out
      have y1 := at_block hB3 1 _ rfl
      have fy1 := free_block hB3 1
      have HB3 := Lib.hid hB3
      have HA3 := Lib.hid hA3
      have HOW3 := Lib.hid hown3
      clear hgr3 hown hown3 hB3 hA3 z1
      go_wp2_with fail
      go_roundg f
      case measure => omega
      case rel =>
        have k1 := HH.out.2.2
        refine ⟨y, .slice A' (n + 1) cp', acc ++ [d], rfl, hyu, HH.out.2.1, HH.out.1, by rw [List.length_append, k1]; simp; omega, ?_, ?_, ?_, ?_, ?_⟩
        · rw [Below.heap_setCell _ _ _ _ (show X ≠ X + 1 by omega)]; exact HA3.out
        · exact block_set HB3.out 1 _
        · have h := own_heap (w' := w3.setCell ⟨X + 1, 1, none⟩ (.slice A' (n + 1) cp')) HOW3.out (fun k hk1 _ => by rw [Below.heap_setCell _ _ _ _ (show k ≠ X + 1 by omega)])
          rw [List.length_append, k1]
          have e : u8s (acc ++ [d]) = u8s acc ++ [.int .u8 (d : Int)] := by simp [u8s]
          rw [e]
          exact h
        · have := hb3.size; simp [World.setCell]; omega
        · exact (hbx.trans (hb3.mono (by omega))).setCell (p := ⟨X + 1, 1, none⟩) (by show X ≤ X + 1; omega) _
end Go.Proofs.YtjapgpmoojfhnaaGreatDoor
