/- The reference: powers. The reference: the decimal that is equal to a float. The reference: the decimal of nought. The law BinaryDecimals: its walk where the decimal is not too long, over what it calls. The law BinaryDecimals returns true for every word. The library's decimal in memory: its block, what a store does to it; trim. shouldRoundUp and prefixIsLessThan. -/
import Derived.Test.YtjapgpmoojfhnaaGreatDoorB07
import Derived.Test.YtjapgpmoojfhnaaGreatDoorB09
import Derived.Test.YtjapgpmoojfhnaaGreatDoorB14
import Derived.Test.YtjapgpmoojfhnaaGreatDoorB26
import Derived.Test.YtjapgpmoojfhnaaGreatDoorB27
import Derived.WalkKit
import Derived.WalkSpells
import Derived.WalkLawsBesides
import Derived.PartsItems
import Derived.Items
import Derived.HeadItems
import Derived.CheckFast
import Derived.KernelRfl
import Derived.Laws.Externs
import Derived.Laws.BitsAllLaws
import Derived.BigQuiet
set_option maxHeartbeats 16000000
set_option maxRecDepth 100000
set_option linter.unusedSimpArgs false
set_option linter.unusedVariables false
namespace Go.Proofs.YtjapgpmoojfhnaaGreatDoor
open Go.RowKit Go.Lib
theorem mul_ri (A B : Option Addr) (n n2 c c2 u v : Nat) (w : World) (hr : Reads w w.heap.size A n (u8s (Fl.digL u))) (h2 : Reads w w.heap.size B n2 (u8s (Fl.digL v))) (hn : n ≤ 2000) (hn2 : n2 ≤ 2000) :
 Calls Tryz.prog 52 #[.agg #[.bool false, .slice A n c], .agg #[.bool false, .slice B n2 c2]] w fun x w' => (∃ A' m c', m ≤ c' ∧ (∀ b off, A' = some ⟨b, off, none⟩ → w.heap.size < b) ∧ Reads w' w'.heap.size A' m (u8s (Fl.digL (u * v))) ∧ x = .returned (.agg #[.bool false, .slice A' m c'])) ∧ Below w.heap.size w w' := by
 have h := mul_any A B n n2 c c2 (Fl.digL u) (Fl.digL v) w hr h2 hn hn2 (digL_le9 u) (digL_le9 v)
 rw [dv_digL, dv_digL] at h
 exact h
theorem few {u N : Nat} (h : u ≤ N) (hN : N < 10 ^ 2000) : (Fl.digL u).length ≤ 2000 := by
 obtain ⟨K, hK⟩ : ∃ K, K = 2000 := ⟨_, rfl⟩
 rw [← hK] at hN ⊢
 by_cases h0 : u = 0
 · rw [h0, Fl.digL_zero]; simp
 · obtain ⟨n, h1, h2, h3⟩ := Fl.dec_bounds h0
   rw [Fl.dec_length h0] at h1
   have := Fl.pow10_lt (Nat.lt_of_le_of_lt h2 (Nat.lt_of_le_of_lt h hN))
   omega
def RIx (w : World) (A : Option Addr) (m c u X Y : Nat) : Prop := m ≤ c ∧ Reads w w.heap.size A m (u8s (Fl.digL u)) ∧ ∀ b off, A = some ⟨b, off, none⟩ → X < b ∧ b ≠ Y ∧ b ≠ Y + 1
theorem RIx.on {w w' : World} {A : Option Addr} {m c u X Y : Nat} (h : RIx w A m c u X Y) (hb : Below w.heap.size w w') : RIx w' A m c u X Y := ⟨h.1, h.2.1.on hb, h.2.2⟩
theorem RIx.set {w : World} {A : Option Addr} {m c u X Y : Nat} (h : RIx w A m c u X Y) (k i : Nat) (hk : k = X ∨ k = Y ∨ k = Y + 1) (v : Value) : RIx (w.setCell ⟨k, i, none⟩ v) A m c u X Y :=
 ⟨h.1, h.2.1.kept (by simp [World.setCell]) (fun b off he _ => by
   have := h.2.2 b off he
   exact Below.heap_setCell _ _ _ _ (show b ≠ k by omega)), h.2.2⟩
structure PowBlk (w : World) (X Y : Nat) (A : Option Addr) (n c u : Nat) (B : Option Addr) (m d v : Nat) (wx : World) : Prop where
 bx : wx.heap[X]? = some (.cells #[.bool false, .slice none 0 0] 33 (0, 0))
 ba : wx.heap[Y]? = some (.cells #[.bool false, .slice A n c] 33 (0, 0))
 bb : wx.heap[Y + 1]? = some (.cells #[.bool false, .slice B m d] 33 (0, 0))
 ra : RIx wx A n c u X Y
 rb : RIx wx B m d v X Y
 lt : X < Y
 bel : Below X w wx
section
variable {w wx wy : World} {X Y n c u m d v : Nat} {A B : Option Addr}
theorem PowBlk.size (h : PowBlk w X Y A n c u B m d v wx) : Y + 2 ≤ wx.heap.size := by
 have := lt_of_block h.bb
 omega
theorem PowBlk.on (h : PowBlk w X Y A n c u B m d v wx) (hb : Below wx.heap.size wx wy) : PowBlk w X Y A n c u B m d v wy := by
 have hs := h.size
 obtain ⟨h1, h2, h3, h4, h5, h6, h7⟩ := h
 exact ⟨(hb.block X (by omega)).trans h1, (hb.block Y (by omega)).trans h2, (hb.block (Y + 1) (by omega)).trans h3, h4.on hb, h5.on hb, h6, h7.trans (hb.mono (by omega))⟩
theorem PowBlk.setA (h : PowBlk w X Y A n c u B m d v wx) {A' : Option Addr} {n' c' u' : Nat} (ha : RIx wx A' n' c' u' X Y) : PowBlk w X Y A' n' c' u' B m d v ((wx.setCell ⟨Y, 0, none⟩ (.bool false)).setCell ⟨Y, 1, none⟩ (.slice A' n' c')) := by
 obtain ⟨h1, h2, h3, h4, h5, h6, h7⟩ := h
 refine ⟨?_, block_set (block_set h2 0 _) 1 _, ?_, (ha.set Y 0 (by omega) _).set Y 1 (by omega) _, (h5.set Y 0 (by omega) _).set Y 1 (by omega) _, h6, ?_⟩
 · rw [Below.heap_setCell _ _ _ _ (show X ≠ Y by omega), Below.heap_setCell _ _ _ _ (show X ≠ Y by omega)]; exact h1
 · rw [Below.heap_setCell _ _ _ _ (show Y + 1 ≠ Y by omega), Below.heap_setCell _ _ _ _ (show Y + 1 ≠ Y by omega)]; exact h3
 · exact (h7.setCell (p := ⟨Y, 0, none⟩) (by show X ≤ Y; omega) _).setCell (p := ⟨Y, 1, none⟩) (by show X ≤ Y; omega) _
theorem PowBlk.setB (h : PowBlk w X Y A n c u B m d v wx) {B' : Option Addr} {m' d' v' : Nat} (hb : RIx wx B' m' d' v' X Y) : PowBlk w X Y A n c u B' m' d' v' ((wx.setCell ⟨Y + 1, 0, none⟩ (.bool false)).setCell ⟨Y + 1, 1, none⟩ (.slice B' m' d')) := by
 obtain ⟨h1, h2, h3, h4, h5, h6, h7⟩ := h
 refine ⟨?_, ?_, block_set (block_set h3 0 _) 1 _, (h4.set (Y + 1) 0 (by omega) _).set (Y + 1) 1 (by omega) _, (hb.set (Y + 1) 0 (by omega) _).set (Y + 1) 1 (by omega) _, h6, ?_⟩
 · rw [Below.heap_setCell _ _ _ _ (show X ≠ Y + 1 by omega), Below.heap_setCell _ _ _ _ (show X ≠ Y + 1 by omega)]; exact h1
 · rw [Below.heap_setCell _ _ _ _ (show Y ≠ Y + 1 by omega), Below.heap_setCell _ _ _ _ (show Y ≠ Y + 1 by omega)]; exact h2
 · exact (h7.setCell (p := ⟨Y + 1, 0, none⟩) (by show X ≤ Y + 1; omega) _).setCell (p := ⟨Y + 1, 1, none⟩) (by show X ≤ Y + 1; omega) _
end
theorem pow_odd_step {u v k N : Nat} (h : u * v ^ k = N) (ho : k % 2 = 1) : (u * v) * (v * v) ^ (k / 2) = N := by
 rw [← h, ← Nat.pow_two, ← Nat.pow_mul, Nat.mul_assoc, ← Nat.pow_succ']
 congr 2
 omega
theorem pow_even_step {u v k N : Nat} (h : u * v ^ k = N) (ho : k % 2 = 0) : u * (v * v) ^ (k / 2) = N := by
 rw [← h, ← Nat.pow_two, ← Nat.pow_mul]
 congr 2
 omega
theorem pow_bounds {u v k N : Nat} (h : u * v ^ k = N) (hN : 0 < N) (hk : 0 < k) : u ≤ N ∧ v ≤ N := by
 have hu : 0 < u := by
  rcases Nat.eq_zero_or_pos u with h0 | h0
  · rw [h0, Nat.zero_mul] at h; omega
  · exact h0
 have hv : 0 < v ^ k := by
  rcases Nat.eq_zero_or_pos (v ^ k) with h0 | h0
  · rw [h0, Nat.mul_zero] at h; omega
  · exact h0
 have hv0 : 0 < v := by
  rcases Nat.eq_zero_or_pos v with h0 | h0
  · rw [h0, Nat.zero_pow hk] at hv; omega
  · exact h0
 have h1 : u * 1 ≤ u * v ^ k := Nat.mul_le_mul_left _ hv
 have h2 : 1 * v ^ k ≤ u * v ^ k := Nat.mul_le_mul_right _ hu
 have h3 : v ^ 1 ≤ v ^ k := Nat.pow_le_pow_right hv0 hk
 rw [Nat.pow_one] at h3
 omega
theorem power_any (n k : Nat) (w : World) (hn : n < 18446744073709551616) (hn0 : 0 < n) (hk : k ≤ 2000) (hN : n ^ k < 10 ^ 2000) :
 Calls Tryz.prog 53 #[.int .u64 (n : Int), .int .i64 (k : Int)] w fun x w' => (∃ A m c, m ≤ c ∧ (∀ b off, A = some ⟨b, off, none⟩ → w.heap.size < b) ∧ Reads w' w'.heap.size A m (u8s (Fl.digL (n ^ k))) ∧ x = .returned (.agg #[.bool false, .slice A m c])) ∧ Below w.heap.size w w' := by
 obtain ⟨N, hNN⟩ : ∃ N, n ^ k = N := ⟨_, rfl⟩
 rw [hNN] at hN ⊢
 have O1 := fun W => of64_any 1 W (by decide)
 have ON := Lib.hid (fun W => of64_any n W hn)
 have O1 := Lib.hid O1
 obtain ⟨w1, hw1⟩ : ∃ w1 : World, w.alloc (.cells #[.bool false, .slice none 0 0] 33) = w1 := ⟨_, rfl⟩
 obtain ⟨X, hX⟩ : ∃ X, w.heap.size = X := ⟨_, rfl⟩
 have hx1 := heap_alloc_new w (.cells #[.bool false, .slice none 0 0] 33)
 have hb1 : Below w.heap.size w w1 := by rw [← hw1]; exact (Below.refl _ _).alloc (Nat.le_refl _) _
 have hs1 : w1.heap.size = w.heap.size + 1 := by rw [← hw1]; simp
 rw [hw1, hX] at hx1
 rw [hX] at hb1 hs1
 have HW1 := Lib.hid (And.intro hw1 hX)
 clear hw1 hX
 go_enter Tryz.func53, Tryz.ntmps53
 go_upto_region 1 with fail
 rw [HW1.out.1, HW1.out.2]
 go_wp2_with fail
 refine (O1.out _).mono ?_
 rintro x w2 ⟨v1, rfl, ho1, hb2⟩
 obtain ⟨A1, c1, rfl, hc1, hr1⟩ := own_slice ho1
 have ha1 := own_addr ho1
 go_wp2_with fail
 refine (ON.out _).mono ?_
 rintro x w3 ⟨v2, rfl, ho2, hb3⟩
 obtain ⟨A2, c2, rfl, hc2, hr2⟩ := own_slice ho2
 have ha2 := own_addr ho2
 go_upto_region 2 with fail
 obtain ⟨Y, hY⟩ : ∃ Y, w3.heap.size = Y := ⟨_, rfl⟩
 obtain ⟨n1, hn1⟩ : ∃ n1, (Fl.digL 1).length = n1 := ⟨_, rfl⟩
 obtain ⟨n2, hn2'⟩ : ∃ n2, (Fl.digL n).length = n2 := ⟨_, rfl⟩
 have hn1p : 0 < n1 := by rw [← hn1]; exact (Fl.digL_facts (by decide)).1
 have hn2p : 0 < n2 := by rw [← hn2']; exact (Fl.digL_facts (by omega)).1
 have hblk : PowBlk w X Y A1 n1 c1 1 A2 n2 c2 n ((w3.alloc (Obj.cells #[Value.bool false, Value.slice A1 n1 c1] 33)).alloc (Obj.cells #[Value.bool false, Value.slice A2 n2 c2] 33)) := by
  rw [hn1] at hc1 hr1
  rw [hn2'] at hc2 hr2
  have s2 := hb2.size
  have s3 := hb3.size
  have hr1' := hr1.on hb3
  have hb4 : Below w3.heap.size w3 ((w3.alloc (Obj.cells #[Value.bool false, Value.slice A1 n1 c1] 33)).alloc (Obj.cells #[Value.bool false, Value.slice A2 n2 c2] 33)) := ((Below.refl _ _).alloc (Nat.le_refl _) _).alloc (by simp) _
  refine ⟨?_, ?_, ?_, ⟨hc1, hr1'.on hb4, ?_⟩, ⟨hc2, hr2.on hb4, ?_⟩, by omega, ?_⟩
  · exact alloc_kp (alloc_kp ((hb3.block X (by omega)).trans ((hb2.block X (by omega)).trans hx1)))
  · exact alloc_kp (new_kp _ _ _ hY.symm)
  · exact new_kp _ _ _ (by simp <;> omega)
  · intro b off he
    have h1 := ha1 b off he
    obtain ⟨b', off', e, h2, _⟩ := hr1'.2 hn1p
    rw [he] at e
    cases e
    omega
  · intro b off he
    have h1 := ha2 b off he
    obtain ⟨b', off', e, h2, _⟩ := hr2.2 hn2p
    rw [he] at e
    cases e
    omega
  · refine hb1.trans ((hb2.trans ((hb3.trans (hb4.mono hb3.size)).mono hb2.size)).mono ?_)
    omega
 rw [hY, hn1, hn2']
 obtain ⟨w4, hw4⟩ : ∃ w4, (w3.alloc (Obj.cells #[Value.bool false, Value.slice A1 n1 c1] 33)).alloc (Obj.cells #[Value.bool false, Value.slice A2 n2 c2] 33) = w4 := ⟨_, rfl⟩
 rw [hw4] at hblk ⊢
 have hNp : 0 < N := by rw [← hNN]; exact Nat.pow_pos hn0
 have HN := Lib.hid (And.intro hN hNp)
 have HBL := Lib.hid hblk
 have HNN := Lib.hid hNN
 clear hw4 hblk hY hn1 hn2' hn1p hn2p ho1 ho2 hr1 hr2 ha1 ha2 hc1 hc2 hb2 hb3 hx1 hb1 hs1 hN hNp hNN hn hn0
 go_loopg [1] k (fun f t1 wx => ∃ (k' : Nat) (A : Option Addr) (n1 c u : Nat) (B : Option Addr) (m d v : Nat), t1 = .int .i64 (k' : Int) ∧ k' ≤ f ∧ k' ≤ 2000 ∧ u * v ^ k' = N ∧ PowBlk w X Y A n1 c u B m d v wx)
 case atStart => exact ⟨k, A1, n1, c1, 1, A2, n2, c2, n, rfl, Nat.le_refl _, hk, by rw [Nat.one_mul]; exact HNN.out, HBL.out⟩
 case round =>
  obtain ⟨k', A, n1, c, u, B, m, d, v, rfl, hkf, hk2, hN, hblk⟩ := hrel
  by_cases h0 : k' = 0
  · subst h0
    have p0 := at_block hblk.ba 0 _ rfl
    have p1 := at_block hblk.ba 1 _ rfl
    have r0 := at_block hblk.bx 0 _ rfl
    have r1 := at_block hblk.bx 1 _ rfl
    have s0 := free_block hblk.bx 0
    have s1 := free_block hblk.bx 1
    have HB := Lib.hid (And.intro hblk hN)
    clear hblk hN
    go_wp2_with fail
    refine bodyPost_ret (v := .agg #[.bool false, .slice A n1 c]) (by simp [results, Tryz.results53, go_sem, r0, r1]) rfl ?_
    obtain ⟨hb, hN⟩ := HB.out
    rw [Nat.pow_zero, Nat.mul_one] at hN
    subst hN
    have ha := (hb.ra.set X 0 (by omega) (.bool false)).set X 1 (by omega) (.slice A n1 c)
    refine ⟨⟨A, n1, c, ha.1, ?_, ha.2.1, rfl⟩, ?_⟩
    · intro b off he
      have := ha.2.2 b off he
      rw [HW1.out.2]
      omega
    · rw [HW1.out.2]
      exact (hb.bel.setCell (p := ⟨X, 0, none⟩) (Nat.le_refl _) _).setCell (p := ⟨X, 1, none⟩) (Nat.le_refl _) _
  · obtain ⟨f, rfl⟩ : ∃ f, gk = f + 1 := ⟨gk - 1, by omega⟩
    obtain ⟨b1, b2⟩ := pow_bounds hN HN.out.2 (by omega)
    have l1 : n1 ≤ 2000 := by have h := hblk.ra.2.1.1; rw [u8s_len] at h; have := few b1 HN.out.1; omega
    have l2 : m ≤ 2000 := by have h := hblk.rb.2.1.1; rw [u8s_len] at h; have := few b2 HN.out.1; omega
    have c1 : decide ((0 : Int) < (k' : Int)) = true := decide_eq_true (by omega)
    have hkp : 0 < k' := by omega
    have c1n : decide (0 < k') = true := decide_eq_true hkp
    obtain ⟨q, hq⟩ : ∃ q, k' / 2 = q := ⟨_, rfl⟩
    have q1 : (k' : Int) / 2 = (q : Int) := by omega
    have q2 : Int.tdiv (k' : Int) 2 = (q : Int) := by rw [Int.tdiv_eq_ediv_of_nonneg (by omega)]; exact q1
    have q3 : IntKind.i64.wrap (q : Int) = (q : Int) := IntWalk.i64_in _ (by omega)
    have p0 := at_block hblk.ba 0 _ rfl
    have p1 := at_block hblk.ba 1 _ rfl
    have p2 := at_block hblk.bb 0 _ rfl
    have p3 := at_block hblk.bb 1 _ rfl
    have MU := Lib.hid (mul_ri A B n1 m c d u v wr hblk.ra.2.1 hblk.rb.2.1 l1 l2)
    by_cases ho : k' % 2 = 1
    · have d1 : (k' : Int) % 2 = 1 := by omega
      have d2 : Int.tmod (k' : Int) 2 = 1 := by rw [Int.tmod_eq_emod_of_nonneg (by omega)]; exact d1
      have HB := Lib.hid (And.intro hblk (And.intro (pow_odd_step hN ho) (And.intro b2 hq)))
      clear hblk hN b1 b2 h0 hq
      go_wp2_with fail
      refine (MU.out).mono ?_
      rintro y w5 ⟨⟨A', n', c', hc', ha', hr', rfl⟩, hb5⟩
      obtain ⟨e1, e2, e3, e4⟩ := HB.out
      have hsz := e1.size
      have hb6 := e1.on hb5
      have r0 := at_block hb6.ba 0 _ rfl
      have r1 := at_block hb6.ba 1 _ rfl
      have s0 := free_block hb6.ba 0
      have s1 := free_block hb6.ba 1
      have hb7 := hb6.setA ⟨hc', hr', fun b off he => by have := ha' b off he; have := e1.lt; omega⟩
      have HB7 := Lib.hid hb7
      clear hb6 hb7 e1 e2 e3 e4 hr' ha' hc' hb5 p0 p1 p2 p3
      go_upto_region 5 with fail
      obtain ⟨w6, hw6⟩ : ∃ w6, (w5.setCell ⟨Y, 0, none⟩ (.bool false)).setCell ⟨Y, 1, none⟩ (.slice A' n' c') = w6 := ⟨_, rfl⟩
      rw [hw6]
      have hb7 := HB7.out
      rw [hw6] at hb7
      have HBB := Lib.hid hb7
      have p2 := at_block hb7.bb 0 _ rfl
      have p3 := at_block hb7.bb 1 _ rfl
      have MV := Lib.hid (mul_ri B B m m d d v v w6 hb7.rb.2.1 hb7.rb.2.1 l2 l2)
      clear hb7 hw6 HB7 r0 r1 s0 s1
      by_cases hq0 : q = 0
      · subst hq0
        have c2 : decide ((0 : Int) < ((0 : Nat) : Int)) = false := by decide
        go_wp2_with fail
        go_roundg f
        case measure => omega
        case rel =>
         obtain ⟨e1, e2, e3, e4⟩ := HB.out
         rw [e4] at e2
         exact ⟨0, A', n', c', u * v, B, m, d, v, rfl, by omega, by omega, by simpa using e2, HBB.out⟩
      · have c2 : decide ((0 : Int) < (q : Int)) = true := decide_eq_true (by omega)
        have hqp : 0 < q := by omega
        have c2n : decide (0 < q) = true := decide_eq_true hqp
        go_wp2_with fail
        refine (MV.out).mono ?_
        rintro y w7 ⟨⟨B', m', d', hd', hbb', hrr', rfl⟩, hb7⟩
        have e1 := HBB.out
        have hsz7 := e1.size
        have hb8 := e1.on hb7
        have r0 := at_block hb8.bb 0 _ rfl
        have r1 := at_block hb8.bb 1 _ rfl
        have s0 := free_block hb8.bb 0
        have s1 := free_block hb8.bb 1
        have hb9 := hb8.setB ⟨hd', hrr', fun b off he => by have := hbb' b off he; have := e1.lt; omega⟩
        have HB9 := Lib.hid hb9
        clear hb8 hb9 e1 hrr' hbb' hd' hb7 p2 p3
        go_wp2_with fail
        go_roundg f
        case measure => omega
        case rel =>
         obtain ⟨e1, e2, e3, e4⟩ := HB.out
         rw [e4] at e2
         exact ⟨q, A', n', c', u * v, B', m', d', v * v, rfl, by omega, by omega, e2, HB9.out⟩
    · have d1 : (k' : Int) % 2 = 0 := by omega
      have d2 : Int.tmod (k' : Int) 2 = 0 := by rw [Int.tmod_eq_emod_of_nonneg (by omega)]; exact d1
      have hqp : 0 < q := by omega
      have c2n : decide (0 < q) = true := decide_eq_true hqp
      have c2 : decide ((0 : Int) < (q : Int)) = true := decide_eq_true (by omega)
      have MV := Lib.hid (mul_ri B B m m d d v v wr hblk.rb.2.1 hblk.rb.2.1 l2 l2)
      have HB := Lib.hid (And.intro hblk (And.intro (pow_even_step hN (by omega)) (And.intro b2 hq)))
      clear hblk hN b1 b2 h0 hq
      go_wp2_with fail
      refine (MV.out).mono ?_
      rintro y w7 ⟨⟨B', m', d', hd', hbb', hrr', rfl⟩, hb7⟩
      have e1 := HB.out.1
      have hsz7 := e1.size
      have hb8 := e1.on hb7
      have r0 := at_block hb8.bb 0 _ rfl
      have r1 := at_block hb8.bb 1 _ rfl
      have s0 := free_block hb8.bb 0
      have s1 := free_block hb8.bb 1
      have hb9 := hb8.setB ⟨hd', hrr', fun b off he => by have := hbb' b off he; have := e1.lt; omega⟩
      have HB9 := Lib.hid hb9
      clear hb8 hb9 e1 hrr' hbb' hd' hb7 p0 p1 p2 p3
      go_wp2_with fail
      go_roundg f
      case measure => omega
      case rel =>
       obtain ⟨e1, e2, e3, e4⟩ := HB.out
       rw [e4] at e2
       exact ⟨q, A, n1, c, u, B', m', d', v * v, rfl, by omega, by omega, e2, HB9.out⟩
section
variable {w wx wy : World} {X Y n c u : Nat} {A : Option Addr}
end
theorem readP_exp {c : Nat} {E : Int} (hc : c % 10 ≠ 0) (hl : (decDigits c).length ≤ 400) (h0 : -2000 ≤ E) (h1 : E ≤ 2000) (g : Bool) : (Dc.readP (Fl.expB g c E)).isSome = true := by
 have hc0 : c ≠ 0 := by omega
 obtain ⟨y, l, h4, h5⟩ := Fl.digL_head hc0
 have hne : (Fl.digL c).reverse ≠ [] := by rw [h4]; simp
 have hlen : (Fl.digL c).reverse.length ≤ 400 := by rw [List.length_reverse, ← Fl.dec_length hc0]; exact hl
 have hlast : ∀ u, (Fl.digL c).reverse.getLast? = some u → u ≠ 0 := fun u hu => by
  rw [List.getLast?_reverse, Fl.digL_pos (by omega)] at hu
  simp at hu
  omega
 have hh : Dc.readP (Fl.expB g c E) = some ⟨g, (Fl.digL c).reverse, E⟩ := by
  rw [Dc.readP_iff]
  refine ⟨⟨⟨Fl.digL_digs hc0, fun h => absurd h hne, fun u hu => ?_, hlast⟩, Dc.limit_ok.2 ⟨hlen, h0, h1⟩⟩, ?_⟩
  · have hu' : (Fl.digL c).reverse.head? = some u := hu
    rw [h4] at hu'
    simp at hu'
    omega
  · unfold Dc.showB Dc.coefB Fl.expB
    simp only
    rw [if_neg hne, Fl.dec_is hc0]
    rfl
 rw [hh]
 rfl
theorem readP_nought : (Dc.readP [48, 101, 48]).isSome = true := by
 have hh : Dc.readP [48, 101, 48] = some ⟨false, [], 0⟩ := by
  rw [Dc.readP_iff]
  refine ⟨⟨⟨fun x hx => by (cases hx), fun _ => ⟨rfl, rfl⟩, fun u hu => by (cases hu), fun u hu => by (cases hu)⟩, Dc.limit_ok.2 ⟨by decide, by decide, by decide⟩⟩, ?_⟩
  unfold Dc.showB Dc.coefB
  rw [if_pos rfl, show itoa 0 = [48] by kernel_rfl]
  rfl
 rw [hh]
 rfl
theorem digits_text (A : Option Addr) (n cc c : Nat) (hc : c ≠ 0) (hn : n ≤ 100000) (w : World) (hr : Reads w w.heap.size A n (u8s (Fl.digL c))) :
 Calls Tryz.prog 19 #[.agg #[.bool false, .slice A n cc]] w fun x w' => x = .returned (.string ⟨(decDigits c).toArray⟩) ∧ Below w.heap.size w w' := by
 obtain ⟨a1, a2, a3, _, _⟩ := Fl.digL_facts hc
 have hl := hr.1
 rw [u8s_len] at hl
 have h := inttext_any false A n cc (Fl.digL c) w hr a3 hn (by omega)
 rw [Fl.intN_is hc] at h
 exact h
def dcCells (D : List Nat) (nd dp : Int) (ng tr : Bool) : List Value := u8s D ++ [.int .i64 nd, .int .i64 dp, .bool ng, .bool tr]
structure DcAt (w : World) (X : Nat) (D : List Nat) (nd dp : Int) (ng tr : Bool) : Prop where
 blk : w.heap[X]? = some (.cells (dcCells D nd dp ng tr).toArray 235 (0, 0))
 len : D.length = 800
namespace DcAt
variable {w : World} {X : Nat} {D : List Nat} {nd dp : Int} {ng tr : Bool}
theorem lt (h : DcAt w X D nd dp ng tr) : X < w.heap.size := lt_of_block h.blk
theorem c0 (h : DcAt w X D nd dp ng tr) : w.cell? ⟨X, 800, none⟩ = some (.int .i64 nd) := at_block h.blk 800 _ (by
 rw [List.getElem?_toArray, dcCells, List.getElem?_append_right (by rw [u8s_len, h.len]; exact Nat.le_refl _), u8s_len, h.len]; rfl)
theorem c1 (h : DcAt w X D nd dp ng tr) : w.cell? ⟨X, 801, none⟩ = some (.int .i64 dp) := at_block h.blk 801 _ (by
 rw [List.getElem?_toArray, dcCells, List.getElem?_append_right (by rw [u8s_len, h.len]; decide), u8s_len, h.len]; rfl)
theorem c2 (h : DcAt w X D nd dp ng tr) : w.cell? ⟨X, 802, none⟩ = some (.bool ng) := at_block h.blk 802 _ (by
 rw [List.getElem?_toArray, dcCells, List.getElem?_append_right (by rw [u8s_len, h.len]; decide), u8s_len, h.len]; rfl)
theorem c3 (h : DcAt w X D nd dp ng tr) : w.cell? ⟨X, 803, none⟩ = some (.bool tr) := at_block h.blk 803 _ (by
 rw [List.getElem?_toArray, dcCells, List.getElem?_append_right (by rw [u8s_len, h.len]; decide), u8s_len, h.len]; rfl)
theorem byte (h : DcAt w X D nd dp ng tr) {i b : Nat} (hb : D[i]? = some b) : w.cell? ⟨X, i, none⟩ = some (.int .u8 (b : Int)) := at_block h.blk i _ (by
 have hi := (List.getElem?_eq_some_iff.1 hb).1
 rw [List.getElem?_toArray, dcCells, List.getElem?_append_left (by rw [u8s_len]; exact hi)]
 exact u8s_get hb)
theorem free (h : DcAt w X D nd dp ng tr) (i : Nat) : w.frozen? ⟨X, i, none⟩ = false := free_block h.blk i
theorem drew (h : DcAt w X D nd dp ng tr) : DcAt w.drew X D nd dp ng tr := ⟨h.blk, h.len⟩
theorem drewN (h : DcAt w X D nd dp ng tr) (k : Nat) : DcAt (w.drewN k) X D nd dp ng tr := ⟨h.blk, h.len⟩
theorem set_tail (h : DcAt w X D nd dp ng tr) (k : Nat) (v : Value) {t : List Value} (ht : [Value.int .i64 nd, .int .i64 dp, .bool ng, .bool tr].set k v = t) :
 (w.setCell ⟨X, 800 + k, none⟩ v).heap[X]? = some (.cells (u8s D ++ t).toArray 235 (0, 0)) := by
 rw [block_set h.blk, List.setIfInBounds_toArray, dcCells, List.set_append, if_neg (by rw [u8s_len, h.len]; omega), u8s_len, h.len, Nat.add_sub_cancel_left, ht]
theorem set0 (h : DcAt w X D nd dp ng tr) (n : Int) : DcAt (w.setCell ⟨X, 800, none⟩ (.int .i64 n)) X D n dp ng tr := ⟨h.set_tail 0 _ rfl, h.len⟩
theorem set1 (h : DcAt w X D nd dp ng tr) (n : Int) : DcAt (w.setCell ⟨X, 801, none⟩ (.int .i64 n)) X D nd n ng tr := ⟨h.set_tail 1 _ rfl, h.len⟩
theorem set2 (h : DcAt w X D nd dp ng tr) (b : Bool) : DcAt (w.setCell ⟨X, 802, none⟩ (.bool b)) X D nd dp b tr := ⟨h.set_tail 2 _ rfl, h.len⟩
theorem set3 (h : DcAt w X D nd dp ng tr) (b : Bool) : DcAt (w.setCell ⟨X, 803, none⟩ (.bool b)) X D nd dp ng b := ⟨h.set_tail 3 _ rfl, h.len⟩
theorem setB (h : DcAt w X D nd dp ng tr) {i : Nat} (hi : i < 800) (b : Nat) : DcAt (w.setCell ⟨X, i, none⟩ (.int .u8 (b : Int))) X (D.set i b) nd dp ng tr := by
 refine ⟨?_, by rw [List.length_set, h.len]⟩
 rw [block_set h.blk, List.setIfInBounds_toArray, dcCells, List.set_append, if_pos (by rw [u8s_len, h.len]; exact hi)]
 congr 2
 unfold dcCells u8s
 rw [List.map_set]
end DcAt
theorem dctrim_any (X : Nat) (D : List Nat) (nd : Nat) (dp : Int) (ng tr : Bool) (hn : nd ≤ 800) (w : World) (hX : DcAt w X D nd dp ng tr) :
 Calls Tryz.prog 223 #[.pointer (some ⟨X, 0, none⟩)] w fun x w' => x = .returned (.tuple #[]) ∧ DcAt w' X D (trimN D nd) (dpT (trimN D nd) dp) ng tr ∧ Below X w w' := by
 go_enter Tryz.func223, Tryz.ntmps223
 go_wp2_with fail
 go_loopg [] nd (fun f wx => DcAt wx X D f dp ng tr ∧ trimN D f = trimN D nd ∧ f ≤ nd ∧ Below X w wx)
 case atStart => exact ⟨hX, rfl, Nat.le_refl _, Below.refl _ _⟩
 case round =>
  obtain ⟨hW, htr, hle, hbx⟩ := hrel
  have x0 := hW.c0
  have x1 := hW.c1
  have z0 := hW.free 800
  have z1 := hW.free 801
  cases gk with
  | zero =>
    have ht0 : trimN D nd = 0 := by rw [← htr]; rfl
    have HB := Lib.hid (And.intro hW (And.intro hbx ht0))
    clear hX hW htr hbx ht0
    go_upto_region 1 with fail
    go_quiet (fail)
    go_wp2_with fail
    refine ⟨rfl, .tuple #[], results_none rfl _ _ _, rfl, ?_⟩
    obtain ⟨h1, h2, h3⟩ := HB.out
    rw [h3, dpT, if_pos rfl]
    exact ⟨(h1.drewN _).set1 0, (below_drewN h2 _).setCell (Nat.le_refl _) _⟩
  | succ f =>
    obtain ⟨b, hb⟩ : ∃ b, D[f]? = some b := ⟨_, List.getElem?_eq_getElem (by rw [hX.len]; omega)⟩
    have xb := hW.byte hb
    have d0 : decide ((0 : Int) < ((f + 1 : Nat) : Int)) = true := decide_eq_true (by omega)
    have w1 : IntKind.i64.wrap (((f + 1 : Nat) : Int) - 1) = (f : Int) := by have := IntWalk.i64_in (((f + 1 : Nat) : Int) - 1) (by omega); rw [this]; omega
    have w1' : IntKind.i64.wrap ((f : Int) + 1 - 1) = (f : Int) := by have := IntWalk.i64_in ((f : Int) + 1 - 1) (by omega); rw [this]; omega
    have i0 : (0 : Int) ≤ (f : Int) := by omega
    have i1 : (f : Int) < 800 := by omega
    by_cases hb48 : b = 48
    · subst hb48
      have htr' : trimN D f = trimN D nd := by rw [← htr, trimN, if_pos hb]
      have HB := Lib.hid (And.intro hW (And.intro hbx (And.intro htr' (show f ≤ nd by omega))))
      clear hX hW htr hbx htr' hb hle hn
      go_upto_region 1 with fail
      go_quiet (fail)
      go_wp2_with fail
      go_roundg f
      case measure => exact Nat.lt_succ_self _
      case rel =>
       obtain ⟨h1, h2, h3, h4⟩ := HB.out
       exact ⟨(h1.drewN _).set0 _, h3, h4, (below_drewN h2 _).setCell (Nat.le_refl _) _⟩
    · have he : ((b : Int) == 48) = false := by rw [beq_eq_false_iff_ne]; omega
      have htr' : trimN D nd = f + 1 := by rw [← htr, trimN, if_neg (by rw [hb]; simpa using hb48)]
      have HB := Lib.hid (And.intro hW (And.intro hbx htr'))
      have e0 : (((f + 1 : Nat) : Int) == 0) = false := by rw [beq_eq_false_iff_ne]; omega
      have e0' : ((f : Int) + 1 == 0) = false := by rw [beq_eq_false_iff_ne]; omega
      clear hX hW htr hbx htr' hb hle hn
      go_upto_region 1 with fail
      go_quiet (fail)
      go_wp2_with fail
      refine ⟨rfl, .tuple #[], results_none rfl _ _ _, rfl, ?_⟩
      obtain ⟨h1, h2, h3⟩ := HB.out
      rw [h3, dpT, if_neg (Nat.succ_ne_zero _)]
      exact ⟨h1.drewN _, below_drewN h2 _⟩
theorem rup_neg (X : Nat) (D : List Nat) (nd k dp : Int) (ng tr : Bool) (hk : k < 0 ∨ nd ≤ k) (w : World) (hX : DcAt w X D nd dp ng tr) :
 Calls Tryz.prog 221 #[.pointer (some ⟨X, 0, none⟩), .int .i64 k] w fun x w' => x = .returned (.bool false) ∧ w' = w := by
 have x0 := hX.c0
 clear hX
 rcases hk with h | h
 · have d1 : decide (k < 0) = true := decide_eq_true h
   clear h
   go_enter Tryz.func221, Tryz.ntmps221
   go_wp2_with fail
   go_ret
   exact ⟨rfl, rfl⟩
 · by_cases h0 : k < 0
   · have d1 : decide (k < 0) = true := decide_eq_true h0
     clear h h0
     go_enter Tryz.func221, Tryz.ntmps221
     go_wp2_with fail
     go_ret
     exact ⟨rfl, rfl⟩
   · have d1 : decide (k < 0) = false := decide_eq_false h0
     have d2 : decide (nd ≤ k) = true := decide_eq_true h
     clear h h0
     go_enter Tryz.func221, Tryz.ntmps221
     go_wp2_with fail
     go_ret
     exact ⟨rfl, rfl⟩
theorem rup_any (X : Nat) (D : List Nat) (nd k : Nat) (dp : Int) (ng tr : Bool) (hn : nd ≤ 800) (hD : ∀ i, i < nd → D.getD i 0 < 256) (h48 : ∀ i, i < nd → 48 ≤ D.getD i 0) (w : World) (hX : DcAt w X D nd dp ng tr) :
 Calls Tryz.prog 221 #[.pointer (some ⟨X, 0, none⟩), .int .i64 (k : Int)] w fun x w' => x = .returned (.bool (rupN D nd tr k)) ∧ w' = w := by
 by_cases hk : nd ≤ k
 · have := rup_neg X D nd k dp ng tr (Or.inr (by omega)) w hX
   rw [show rupN D nd tr k = false by unfold rupN; rw [decide_eq_false (by omega)]; rfl]
   exact this
 · obtain ⟨b, hb⟩ : ∃ b, D[k]? = some b := ⟨_, List.getElem?_eq_getElem (by rw [hX.len]; omega)⟩
   have xb := hX.byte hb
   have x0 := hX.c0
   have x4 := hX.c3
   have hbd : D.getD k 0 = b := by rw [List.getD_eq_getElem?_getD, hb]; rfl
   have hb2 := hD k (by omega)
   rw [hbd] at hb2
   have d1 : decide ((k : Int) < 0) = false := decide_eq_false (by omega)
   have d2 : decide ((nd : Int) ≤ (k : Int)) = false := decide_eq_false (by omega)
   have d2n : decide (nd ≤ k) = false := decide_eq_false (by omega)
   have i0 : (0 : Int) ≤ (k : Int) := by omega
   have i1 : (k : Int) < 800 := by omega
   have w1 : IntKind.i64.wrap ((k : Int) + 1) = (k : Int) + 1 := IntWalk.i64_in ((k : Int) + 1) (by omega)
   have hkn : decide (k < nd) = true := decide_eq_true (by omega)
   by_cases h53 : b = 53
   · subst h53
     by_cases hl : k + 1 = nd
     · have e1 : ((k : Int) + 1 == (nd : Int)) = true := by rw [beq_iff_eq]; omega
       have hr : rupN D nd tr k = (tr || (decide (0 < k) && (D.getD (k - 1) 0 - 48) % 2 != 0)) := by
        unfold rupN
        rw [hkn, hbd, show (k + 1 == nd) = true by rw [beq_iff_eq]; exact hl]
        rfl
       cases tr with
       | true =>
         have HR := Lib.hid hr
         clear hr hn hk hX hD h48 hb hbd hb2 hkn hl
         go_enter Tryz.func221, Tryz.ntmps221
         go_wp2_with fail
         go_ret
         exact ⟨by first | (rw [HR.out]; rfl) | rw [HR.out], rfl⟩
       | false =>
         by_cases hk0 : k = 0
         · have d3 : decide ((0 : Int) < (k : Int)) = false := decide_eq_false (by omega)
           have d3n : decide (0 < k) = false := decide_eq_false (by omega)
           rw [d3n] at hr
           have HR := Lib.hid hr
           clear hr hn hk hX hD h48 hb hbd hb2 hkn hl hk0
           go_enter Tryz.func221, Tryz.ntmps221
           go_wp2_with fail
           go_ret
           exact ⟨by first | (rw [HR.out]; rfl) | rw [HR.out], rfl⟩
         · obtain ⟨j, hj⟩ : ∃ j, k = j + 1 := ⟨k - 1, by omega⟩
           obtain ⟨y, hy⟩ : ∃ y, D[j]? = some y := ⟨_, List.getElem?_eq_getElem (by rw [hX.len]; omega)⟩
           have xy := hX.byte hy
           have hyd : D.getD j 0 = y := by rw [List.getD_eq_getElem?_getD, hy]; rfl
           have hy2 := hD j (by omega)
           rw [hyd] at hy2
           have hy3 := h48 j (by omega)
           rw [hyd] at hy3
           have w2 : IntKind.i64.wrap ((k : Int) - 1) = (j : Int) := by have := IntWalk.i64_in ((k : Int) - 1) (by omega); rw [this]; omega
           have j0 : (0 : Int) ≤ (j : Int) := by omega
           have j1 : (j : Int) < 800 := by omega
           have d3 : decide ((0 : Int) < (k : Int)) = true := decide_eq_true (by omega)
           have d3n : decide (0 < k) = true := decide_eq_true (by omega)
           obtain ⟨v, hv⟩ : ∃ v, y - 48 = v := ⟨_, rfl⟩
           obtain ⟨p, hp⟩ : ∃ p, v % 2 = p := ⟨_, rfl⟩
           have w3 : IntKind.u8.wrap ((y : Int) - 48) = (v : Int) := by rw [IntKind.wrap_u8]; omega
           have w4 : Int.tmod (v : Int) 2 = (p : Int) := by rw [Int.tmod_eq_emod_of_nonneg (by omega)]; omega
           have w4' : (v : Int) % 2 = (p : Int) := by omega
           have w5 : IntKind.u8.wrap (p : Int) = (p : Int) := by rw [IntKind.wrap_u8]; omega
           have hr2 : rupN D nd false k = (p != 0) := by
            rw [hr, d3n, show k - 1 = j by omega, hyd, hv, hp]; rfl
           have w6 : ((p : Int) == 0) = (p == 0) := by
            by_cases h : p = 0
            · subst h; rfl
            · rw [show (p == 0) = false by rw [beq_eq_false_iff_ne]; exact h, beq_eq_false_iff_ne]; omega
           have w6' : ((p : Int) != 0) = (p != 0) := by unfold bne; rw [w6]
           have HR := Lib.hid hr2
           clear hr hr2 hn hk hX hD h48 hb hbd hb2 hkn hl hk0 hy hyd hy2 hy3 hv hp hj
           go_enter Tryz.func221, Tryz.ntmps221
           go_wp2_with fail
           go_ret
           exact ⟨by first | (rw [HR.out]; rfl) | rw [HR.out], rfl⟩
     · have e1 : ((k : Int) + 1 == (nd : Int)) = false := by rw [beq_eq_false_iff_ne]; omega
       have hr : rupN D nd tr k = true := by
        unfold rupN
        rw [hkn, hbd, show (k + 1 == nd) = false by rw [beq_eq_false_iff_ne]; exact hl]
        rfl
       have HR := Lib.hid hr
       clear hr hn hk hX hD h48 hb hbd hb2 hkn hl
       go_enter Tryz.func221, Tryz.ntmps221
       go_wp2_with fail
       go_ret
       exact ⟨by first | (rw [HR.out]; rfl) | rw [HR.out], rfl⟩
   · have e1 : ((b : Int) == 53) = false := by rw [beq_eq_false_iff_ne]; omega
     have hr : rupN D nd tr k = decide (53 ≤ b) := by
      unfold rupN
      rw [hkn, hbd, show (b == 53) = false by rw [beq_eq_false_iff_ne]; exact h53]
      rfl
     have e2 : decide ((53 : Int) ≤ (b : Int)) = decide (53 ≤ b) := decide_eq_decide.2 (by omega)
     have HR := Lib.hid hr
     clear hr hn hk hX hD h48 hb hbd hb2 hkn h53
     go_enter Tryz.func221, Tryz.ntmps221
     go_wp2_with fail
     go_ret
     exact ⟨by first | (rw [HR.out]; rfl) | rw [HR.out], rfl⟩
theorem prefix_less (A : Option Addr) (n c : Nat) (l : List Nat) (s : ByteArray) (hs : s.size ≤ 1000) (hn : n ≤ 1000) (hl : ∀ x ∈ l, x < 256) (w : World) (hr : Reads w w.heap.size A n (u8s l)) :
 Calls Tryz.prog 222 #[.slice A n c, .string s] w fun x w' => x = .returned (.bool (ltP l (s.data.toList.map (·.toNat)))) ∧ Below w.heap.size w w' := by
 have hlen : l.length = n := by have := hr.1; rwa [u8s_len] at this
 have hsl : (s.data.toList.map (·.toNat)).length = s.size := by simp
 obtain ⟨T, hT⟩ : ∃ T, s.data.toList.map (·.toNat) = T := ⟨_, rfl⟩
 have hTi : ∀ i (h : i < s.size), T[i]? = some (s[i]'h).toNat := fun i h => by
  rw [← hT, List.getElem?_map]
  have e : s.data.toList[i]? = some (s[i]'h) := by
   rw [List.getElem?_eq_getElem (by simpa using h)]; rfl
  rw [e]; rfl
 obtain ⟨S, hS⟩ : ∃ S, s.size = S := ⟨_, rfl⟩
 rw [hT] at hsl ⊢
 obtain ⟨R, hR⟩ : ∃ R, ltP l T = R := ⟨_, rfl⟩
 rw [hR]
 have HR := Lib.hid hr
 have HT := Lib.hid (And.intro hTi (And.intro hsl (And.intro hlen (And.intro hl (And.intro hs (And.intro hn hS))))))
 have hS2 : (s.size : Int) = (S : Int) := by omega
 clear hr hTi hT
 go_enter Tryz.func222, Tryz.ntmps222
 go_wp2_with fail
 go_loopg [5] S (fun f t5 wx => ∃ i : Nat, t5 = .int .i64 (i : Int) ∧ i + f = S ∧ ltP (l.drop i) (T.drop i) = R ∧ Below w.heap.size w wx)
 case atStart => exact ⟨0, rfl, by omega, hR, Below.refl _ _⟩
 case round =>
  obtain ⟨i, rfl, hif, hlt, hbx⟩ := hrel
  cases gk with
  | zero =>
    have d1 : decide ((i : Int) < (S : Int)) = false := decide_eq_false (by omega)
    have d1' : decide (i < S) = false := decide_eq_false (by omega)
    have hR0 : R = false := by rw [← hlt, List.drop_eq_nil_of_le (by omega : T.length ≤ i), ltP_nil]
    have HB := Lib.hid (And.intro hbx hR0)
    clear hbx hR0 hlt hR hif hlen hsl
    go_wp2_with fail
    go_ret
    exact ⟨by first | (rw [HB.out.2]; rfl) | rw [HB.out.2], HB.out.1⟩
  | succ f =>
    have hi : i < s.size := by omega
    have d1 : decide ((i : Int) < (S : Int)) = true := decide_eq_true (by omega)
    have d1' : decide (i < S) = true := decide_eq_true (by omega)
    obtain ⟨ty, hty⟩ : ∃ ty, s[i]'hi = ty := ⟨_, rfl⟩
    have hdT : T.drop i = ty.toNat :: T.drop (i + 1) := by
     have h := HT.out.1 i hi
     rw [hty] at h
     exact (List.drop_eq_getElem_cons (i := i) (by omega)).trans (by rw [(List.getElem?_eq_some_iff.1 h).2])
    have hi1 : (i : Int) < s.size := by omega
    have hi0 : (0 : Int) ≤ (i : Int) := by omega
    by_cases hin : n ≤ i
    · have d2 : decide ((n : Int) ≤ (i : Int)) = true := decide_eq_true (by omega)
      have d2' : decide (n ≤ i) = true := decide_eq_true (by omega)
      have hR0 : R = true := by rw [← hlt, hdT, List.drop_eq_nil_of_le (by omega : l.length ≤ i)]; rfl
      have HB := Lib.hid (And.intro hbx hR0)
      clear hbx hR0 hlt hR hif hlen hsl hdT hin
      go_wp2_with fail
      go_ret
      exact ⟨by first | (rw [HB.out.2]; rfl) | rw [HB.out.2], HB.out.1⟩
    · have d2 : decide ((n : Int) ≤ (i : Int)) = false := decide_eq_false (by omega)
      have d2' : decide (n ≤ i) = false := decide_eq_false (by omega)
      have hin' : (i : Int) < (n : Int) := by omega
      obtain ⟨b, off, u, rfl, hbB, hu, xu⟩ := (HR.out.on hbx).at_ (k := i) (by omega)
      obtain ⟨x, hx, rfl⟩ := u8_at hu
      have hdl : l.drop i = x :: l.drop (i + 1) := (List.drop_eq_getElem_cons (i := i) (by omega)).trans (by rw [(List.getElem?_eq_some_iff.1 hx).2])
      rw [hdl, hdT] at hlt
      by_cases hxy : x = ty.toNat
      · have e1 : ((x : Int) == (ty.toNat : Int)) = true := by rw [beq_iff_eq]; omega
        have e1' : ((x : Int) != (ty.toNat : Int)) = false := by unfold bne; rw [e1]; rfl
        have w1 : IntKind.i64.wrap ((i : Int) + 1) = ((i + 1 : Nat) : Int) := by have := IntWalk.i64_in ((i : Int) + 1) (by omega); rw [this]; omega
        have hlt2 : ltP (l.drop (i + 1)) (T.drop (i + 1)) = R := by
         rw [← hlt, ltP, show (x == ty.toNat) = true by rw [beq_iff_eq]; exact hxy]; rfl
        have HB := Lib.hid (And.intro hbx (And.intro hlt2 (show i + 1 + f = S by omega)))
        clear hbx hlt2 hlt hR hif hlen hsl hdl hdT hin hu hx hxy hbB
        go_upto_region 6 with fail
        go_quiet (fail)
        go_wp2_with fail
        go_roundg f
        case measure => exact Nat.lt_succ_self _
        case rel => exact ⟨i + 1, rfl, HB.out.2.2, HB.out.2.1, below_drewN HB.out.1 _⟩
      · have e1 : ((x : Int) == (ty.toNat : Int)) = false := by rw [beq_eq_false_iff_ne]; omega
        have e1' : ((x : Int) != (ty.toNat : Int)) = true := by unfold bne; rw [e1]; rfl
        obtain ⟨v, hv⟩ : ∃ v, decide (x < ty.toNat) = v := ⟨_, rfl⟩
        have e2 : decide ((x : Int) < (ty.toNat : Int)) = v := by rw [← hv]; exact decide_eq_decide.2 (by omega)
        have hlt2 : R = v := by
         rw [← hlt, ltP, show (x == ty.toNat) = false by rw [beq_eq_false_iff_ne]; exact hxy, ← hv]; rfl
        have HB := Lib.hid (And.intro hbx hlt2)
        clear hbx hlt2 hlt hR hif hlen hsl hdl hdT hin hu hx hxy hbB
        go_upto_region 6 with fail
        go_quiet (fail)
        go_upto_region 7 with fail
        go_quiet (fail)
        go_wp2_with fail
        go_ret
        exact ⟨by first | (rw [HB.out.2]; rfl) | rw [HB.out.2], below_drewN (below_drewN HB.out.1 _) _⟩
end Go.Proofs.YtjapgpmoojfhnaaGreatDoor
