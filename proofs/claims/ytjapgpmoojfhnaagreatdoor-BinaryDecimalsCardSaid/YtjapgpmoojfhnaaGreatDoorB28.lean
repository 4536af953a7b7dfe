/- The reference: the decimal that is equal to a float. The reference: the decimal of nought. The law BinaryDecimals: its walk where the decimal is not too long, over what it calls. -/
import Derived.Test.YtjapgpmoojfhnaaGreatDoorB26
import Derived.Test.YtjapgpmoojfhnaaGreatDoorB27
namespace Go.Proofs.YtjapgpmoojfhnaaGreatDoor
open Go.RowKit Go.Lib

/-- Digits with z zeros, least significant first. -/
theorem digL_zeros {c : Nat} (hc : 0 < c) : ∀ z, Fl.digL (c * 10 ^ z) = List.replicate z 0 ++ Fl.digL c
  | 0 => by simp
  | z + 1 => by
    have hp : 0 < c * 10 ^ z := Nat.mul_pos hc (Nat.pow_pos (by decide))
    have e : c * 10 ^ (z + 1) = 10 * (c * 10 ^ z) := by rw [Nat.pow_succ, ← Nat.mul_assoc, Nat.mul_comm]
    rw [e, Fl.digL_pos (by omega), show 10 * (c * 10 ^ z) / 10 = c * 10 ^ z by omega, show 10 * (c * 10 ^ z) % 10 = 0 by omega, digL_zeros hc z, List.replicate_succ]
    rfl
theorem digL_first {c : Nat} (hc : c % 10 ≠ 0) : ∃ d l, Fl.digL c = d :: l ∧ d ≠ 0 := ⟨_, _, Fl.digL_pos (by omega), hc⟩
/-- The places of c * 10^z: noughts up to z, and then none. -/
theorem place_zero {c z i : Nat} (hc : c % 10 ≠ 0) (h : i < z) : (Fl.digL (c * 10 ^ z))[i]? = some 0 := by
  rw [digL_zeros (by omega) z, List.getElem?_append_left (by simp; exact h), List.getElem?_replicate, if_pos h]
theorem place_some {c z : Nat} (hc : c % 10 ≠ 0) : ∃ d, (Fl.digL (c * 10 ^ z))[z]? = some d ∧ d ≠ 0 := by
  obtain ⟨d, l, h1, h2⟩ := digL_first hc
  refine ⟨d, ?_, h2⟩
  rw [digL_zeros (by omega) z, List.getElem?_append_right (by simp), h1]
  simp
/-- One block of a number. -/
structure ExBlk (w : World) (X Y : Nat) (A : Option Addr) (n c u : Nat) (wx : World) : Prop where
  bx : wx.heap[X]? = some (.cells #[.bool false, .slice none 0 0] 33 (0, 0))
  ba : wx.heap[Y]? = some (.cells #[.bool false, .slice A n c] 33 (0, 0))
  ra : RIx wx A n c u X Y
  lt : X < Y
  bel : Below X w wx
section
variable {w wx wy : World} {X Y n c u : Nat} {A : Option Addr}
theorem ExBlk.size (h : ExBlk w X Y A n c u wx) : Y + 1 ≤ wx.heap.size := by
  have := lt_of_block h.ba
  omega
theorem ExBlk.on (h : ExBlk w X Y A n c u wx) (hb : Below wx.heap.size wx wy) : ExBlk w X Y A n c u wy := by
  have hs := h.size
  obtain ⟨h1, h2, h4, h6, h7⟩ := h
  exact ⟨(hb.block X (by omega)).trans h1, (hb.block Y (by omega)).trans h2, h4.on hb, h6, h7.trans (hb.mono (by omega))⟩
theorem ExBlk.setA (h : ExBlk w X Y A n c u wx) {A' : Option Addr} {n' c' u' : Nat} (ha : RIx wx A' n' c' u' X Y) : ExBlk w X Y A' n' c' u' ((wx.setCell ⟨Y, 0, none⟩ (.bool false)).setCell ⟨Y, 1, none⟩ (.slice A' n' c')) := by
  obtain ⟨h1, h2, h4, h6, h7⟩ := h
  refine ⟨?_, block_set (block_set h2 0 _) 1 _, (ha.set Y 0 (by omega) _).set Y 1 (by omega) _, h6, ?_⟩
  · rw [Below.heap_setCell _ _ _ _ (show X ≠ Y by omega), Below.heap_setCell _ _ _ _ (show X ≠ Y by omega)]; exact h1
  · exact (h7.setCell (p := ⟨Y, 0, none⟩) (by show X ≤ Y; omega) _).setCell (p := ⟨Y, 1, none⟩) (by show X ≤ Y; omega) _
end
theorem ExBlk.on' {w wx wy wz : World} {X Y n c u : Nat} {A : Option Addr} (h : ExBlk w X Y A n c u wx) (hb : Below wy.heap.size wy wz) (hy : Below wx.heap.size wx wy) : ExBlk w X Y A n c u wz := (h.on hy).on hb
theorem ex_mul {w wx : World} {X Y n c u : Nat} {A : Option Addr} (h : ExBlk w X Y A n c u wx) {B : Option Addr} {m d v : Nat} (hr : Reads wx wx.heap.size B m (u8s (Fl.digL v))) (hn : (Fl.digL u).length ≤ 2000) (hm : m ≤ 2000) (W : World) (hW : Below wx.heap.size wx W) :
    Calls Tryz.prog 52 #[.agg #[.bool false, .slice A n c], .agg #[.bool false, .slice B m d]] W fun x w' => (∃ A' m c', m ≤ c' ∧ (∀ b off, A' = some ⟨b, off, none⟩ → X < b ∧ b ≠ Y ∧ b ≠ Y + 1) ∧ Reads w' w'.heap.size A' m (u8s (Fl.digL (u * v))) ∧ x = .returned (.agg #[.bool false, .slice A' m c'])) ∧ ExBlk w X Y A n c u w' := by
  have hE := h.on hW
  have hs := hE.size
  have hlt := hE.lt
  have hl := hE.ra.2.1.1
  rw [u8s_len] at hl
  refine (mul_ri A B n m c d u v W hE.ra.2.1 (hr.on hW) (by omega) hm).mono ?_
  rintro x w' ⟨⟨A', m', c', h1, h2, h3, h4⟩, hb⟩
  exact ⟨⟨A', m', c', h1, fun b off he => by have := h2 b off he; omega, h3, h4⟩, hE.on hb⟩
set_option maxHeartbeats 4000000 in
set_option maxRecDepth 100000 in
theorem exact17_pos (m k c z : Nat) (w : World) (hm : m < 18446744073709551616) (hm0 : 0 < m) (hk : k ≤ 2000) (hN : m * 2 ^ k < 10 ^ 2000) (hc : m * 2 ^ k = c * 10 ^ z) (hc0 : c % 10 ≠ 0) (hz : z ≤ 5000) :
    Calls Tryz.prog 17 #[.int .u64 (m : Int), .int .i64 (k : Int)] w fun x w' => (∃ A n cc, n ≤ cc ∧ Reads w' w'.heap.size A n (u8s (Fl.digL c)) ∧ x = .returned (.tuple #[.agg #[.bool false, .slice A n cc], .int .i64 (z : Int)])) ∧ Below w.heap.size w w' := by
  have OM := Lib.hid (fun W => of64_any m W hm)
  have hpp : 0 < 2 ^ k := Nat.pow_pos (by decide)
  have hmN : m ≤ m * 2 ^ k := Nat.le_mul_of_pos_right _ hpp
  have hpN : 2 ^ k ≤ m * 2 ^ k := Nat.le_mul_of_pos_left _ hm0
  have PW := Lib.hid (fun W => power_any 2 k W (by decide) (by decide) hk (Nat.lt_of_le_of_lt hpN hN))
  have hl1 := few hmN hN
  have hl2 := few hpN hN
  have hu0 : m * 2 ^ k ≠ 0 := by have := Nat.mul_pos hm0 hpp; omega
  have c0 : decide ((0 : Int) ≤ (k : Int)) = true := decide_eq_true (by omega)
  have hk0 : (0 : Int) ≤ (k : Int) := by omega
  obtain ⟨P, hP⟩ : ∃ P, 2 ^ k = P := ⟨_, rfl⟩
  rw [hP] at PW hN hc hl2 hu0
  obtain ⟨w1, hw1⟩ : ∃ w1 : World, w.alloc (.cells #[.bool false, .slice none 0 0] 33) = w1 := ⟨_, rfl⟩
  obtain ⟨X, hX⟩ : ∃ X, w.heap.size = X := ⟨_, rfl⟩
  have hx1 := heap_alloc_new w (.cells #[.bool false, .slice none 0 0] 33)
  have hb1 : Below w.heap.size w w1 := by rw [← hw1]; exact (Below.refl _ _).alloc (Nat.le_refl _) _
  have hs1 : w1.heap.size = w.heap.size + 1 := by rw [← hw1]; simp
  rw [hw1, hX] at hx1
  rw [hX] at hb1 hs1
  have hml : 0 < (Fl.digL m).length := (Fl.digL_facts (by omega)).1
  have HW1 := Lib.hid (And.intro hw1 hX)
  have HN := Lib.hid (And.intro hc (And.intro hc0 (And.intro hz hu0)))
  clear hw1 hX hN hc hc0 hz hP hpp hmN hpN hu0
  go_enter Tryz.func17, Tryz.ntmps17
  go_upto_region 1 with fail
  rw [HW1.out.1, HW1.out.2]
  go_wp2_with fail
  refine (OM.out _).mono ?_
  rintro x w2 ⟨v1, rfl, ho1, hb2⟩
  obtain ⟨A1, c1, rfl, hc1, hr1⟩ := own_slice ho1
  have ha1 := own_addr ho1
  go_upto_if 12 with fail
  obtain ⟨Y, hY⟩ : ∃ Y, w2.heap.size = Y := ⟨_, rfl⟩
  obtain ⟨n1, hn1⟩ : ∃ n1, (Fl.digL m).length = n1 := ⟨_, rfl⟩
  rw [hn1] at hc1 hr1 hml
  have hblk : ExBlk w X Y A1 n1 c1 m (w2.alloc (Obj.cells #[Value.bool false, Value.slice A1 n1 c1] 33)) := by
    have s2 := hb2.size
    have hb4 : Below w2.heap.size w2 (w2.alloc (Obj.cells #[Value.bool false, Value.slice A1 n1 c1] 33)) := (Below.refl _ _).alloc (Nat.le_refl _) _
    refine ⟨?_, ?_, ⟨hc1, hr1.on hb4, ?_⟩, by omega, ?_⟩
    · exact alloc_kp ((hb2.block X (by omega)).trans hx1)
    · exact new_kp _ _ _ hY.symm
    · intro b off he
      have h1 := ha1 b off he
      obtain ⟨b', off', e, h2, _⟩ := hr1.2 hml
      rw [he] at e
      cases e
      omega
    · refine hb1.trans ((hb2.trans (hb4.mono hb2.size)).mono ?_)
      omega
  rw [hY, hn1]
  obtain ⟨w3, hw3⟩ : ∃ w3, w2.alloc (Obj.cells #[Value.bool false, Value.slice A1 n1 c1] 33) = w3 := ⟨_, rfl⟩
  rw [hw3] at hblk ⊢
  have p0 := at_block hblk.ba 0 _ rfl
  have p1 := at_block hblk.ba 1 _ rfl
  have HE := Lib.hid hblk
  clear hblk hw3 hY hn1 hr1 ha1 hc1 ho1 hb2 hb1 hs1 hx1
  go_cut [7] (fun t7 wx => ∃ A n cc, t7 = .int .i64 0 ∧ ExBlk w X Y A n cc (m * P) wx)
  case first =>
    go_wp2_with fail
    go_region_with (first
      | (go_at_call 53; refine (PW.out _).mono ?_; rintro x w5 ⟨⟨A2, n2, c2, hc2, ha2, hr2, rfl⟩, hb5⟩; have E5 := HE.out.on' hb5 (by first | exact Below.refl _ _ | exact (Below.refl _ _).drew); have p50 := at_block E5.ba 0 _ rfl; have p51 := at_block E5.ba 1 _ rfl)
      | (go_at_call 52; refine (ex_mul E5 hr2 hl1 (by have h := hr2.1; rw [u8s_len] at h; omega) _ (by first | exact Below.refl _ _ | exact (Below.refl _ _).drew)).mono ?_; rintro x w6 ⟨⟨A3, n3, c3, hc3, ha3, hr3, rfl⟩, E6⟩; have r0 := at_block E6.ba 0 _ rfl; have r1 := at_block E6.ba 1 _ rfl; have s0 := free_block E6.ba 0; have s1 := free_block E6.ba 1))
    all_goals
      have E7 := E6.setA ⟨hc3, hr3, ha3⟩
      have HE7 := Lib.hid E7
      clear E5 E6 E7 hr2 hr3 hb5 ha2 ha3
      go_wp2_with fail
      go_meet
      exact ⟨_, _, _, rfl, HE7.out⟩
  case rest =>
    obtain ⟨A, n, cc, rfl, hblk⟩ := hcut
    obtain ⟨w8, hw8⟩ : ∃ W, W = wc := ⟨_, rfl⟩
    subst hw8
    clear p0 p1
    obtain ⟨hc, hc0, hz, hu0⟩ := HN.out
    obtain ⟨dz, hdz, hdz0⟩ := place_some (z := z) hc0
    have hplace : ∀ i, i < z → (Fl.digL (c * 10 ^ z))[i]? = some 0 := fun i hi => place_zero hc0 hi
    rw [← hc] at hdz hplace
    have hnl := hblk.ra.2.1.1
    rw [u8s_len] at hnl
    have hzn : z < n := by
      rcases Nat.lt_or_ge z n with h | h
      · exact h
      · rw [List.getElem?_eq_none (by omega)] at hdz; cases hdz
    have hdrop : (u8s (Fl.digL (m * P))).drop z = u8s (Fl.digL c) := by
      rw [hc, digL_zeros (by omega) z]
      simp [u8s]
    have hn0 : ((n : Int) == 0) = false := by rw [beq_eq_false_iff_ne]; omega
    have q0 := at_block hblk.ba 0 _ rfl
    have q1 := at_block hblk.ba 1 _ rfl
    have r0 := at_block hblk.bx 0 _ rfl
    have r1 := at_block hblk.bx 1 _ rfl
    have s0 := free_block hblk.bx 0
    have s1 := free_block hblk.bx 1
    have HB := Lib.hid (And.intro hblk hdrop)
    have HZ := Lib.hid (And.intro hdz hplace)
    clear hblk hdrop hdz hplace hc hc0 hu0 hnl
    go_wp2_with fail
    go_loopg [8] z (fun f t8 wx => ∃ i : Nat, t8 = .int .i64 (i : Int) ∧ i + f = z ∧ wx = w8)
    case atStart => exact ⟨0, rfl, by omega, rfl⟩
    case round =>
      obtain ⟨i, rfl, hif, hww⟩ := hrel
      subst hww
      obtain ⟨b, off, u, rfl, hbB, hu, hcell⟩ := HB.out.1.ra.2.1.at_ (k := i) (by omega)
      obtain ⟨x, hx, rfl⟩ := u8_at hu
      have hi0 : (0 : Int) ≤ (i : Int) := by omega
      have hin : (i : Int) < (n : Int) := by omega
      cases gk with
      | zero =>
        obtain rfl : i = z := by omega
        obtain rfl : x = dz := by have := HZ.out.1; rw [hx] at this; exact Option.some.inj this
        have hx0 : ((x : Int) == 0) = false := by rw [beq_eq_false_iff_ne]; omega
        have hx00 : ((x == 0) : Bool) = false := by rw [beq_eq_false_iff_ne]; exact hdz0
        have hle : (i : Int) ≤ (n : Int) := by omega
        have hle2 : (i : Int) ≤ (cc : Int) := by have := HB.out.1.ra.1; omega
        have hcn : (n : Int) ≤ (cc : Int) := by have := HB.out.1.ra.1; omega
        have hnz : (n : Int) - (i : Int) = ((n - i : Nat) : Int) := by omega
        have hcz : (cc : Int) - (i : Int) = ((cc - i : Nat) : Int) := by have := HB.out.1.ra.1; omega
        have g9 : IntKind.i64.wrap (0 + (i : Int)) = 0 + (i : Int) := IntWalk.i64_in _ (by omega)
        clear hu hx hif
        go_wp2_with fail
        refine bodyPost_ret (v := .tuple #[.agg #[.bool false, .slice (some ⟨b, off + i, none⟩) (n - i) (cc - i)], .int .i64 (i : Int)]) (by simp [results, Tryz.results17, go_sem, r0, r1]) rfl ?_
        obtain ⟨e1, e2⟩ := HB.out
        have hd := (e1.ra.2.1).drop i (by omega) b off rfl
        rw [e2] at hd
        refine ⟨⟨_, n - i, cc - i, by omega, ?_, rfl⟩, ?_⟩
        · refine hd.kept (by simp [World.setCell]) (fun b' off' he _ => ?_)
          have := e1.ra.2.2 b off rfl
          cases he
          rw [Below.heap_setCell _ _ _ _ (show b ≠ X by omega), Below.heap_setCell _ _ _ _ (show b ≠ X by omega)]
        · rw [HW1.out.2]
          exact (e1.bel.setCell (p := ⟨X, 0, none⟩) (Nat.le_refl _) _).setCell (p := ⟨X, 1, none⟩) (Nat.le_refl _) _
      | succ f =>
        obtain rfl : x = 0 := by have := HZ.out.2 i (by omega); rw [hx] at this; exact Option.some.inj this
        have g9 : IntKind.i64.wrap ((i : Int) + 1) = ((i + 1 : Nat) : Int) := by have := IntWalk.i64_in ((i : Int) + 1) (by omega); rw [this]; omega
        clear hu hx
        go_wp2_with fail
        go_roundg f
        case measure => omega
        case rel => exact ⟨i + 1, rfl, by omega, rfl⟩
set_option maxHeartbeats 4000000 in
set_option maxRecDepth 100000 in
theorem exact17_neg (m k c z : Nat) (w : World) (hm : m < 18446744073709551616) (hm0 : 0 < m) (hk : k ≤ 2000) (hk0 : 0 < k) (hN : m * 5 ^ k < 10 ^ 2000) (hc : m * 5 ^ k = c * 10 ^ z) (hc0 : c % 10 ≠ 0) (hz : z ≤ 5000) :
    Calls Tryz.prog 17 #[.int .u64 (m : Int), .int .i64 (-(k : Int))] w fun x w' => (∃ A n cc, n ≤ cc ∧ Reads w' w'.heap.size A n (u8s (Fl.digL c)) ∧ x = .returned (.tuple #[.agg #[.bool false, .slice A n cc], .int .i64 (-(k : Int) + (z : Int))])) ∧ Below w.heap.size w w' := by
  have OM := Lib.hid (fun W => of64_any m W hm)
  have hpp : 0 < 5 ^ k := Nat.pow_pos (by decide)
  have hmN : m ≤ m * 5 ^ k := Nat.le_mul_of_pos_right _ hpp
  have hpN : 5 ^ k ≤ m * 5 ^ k := Nat.le_mul_of_pos_left _ hm0
  have PW := Lib.hid (fun W => power_any 5 k W (by decide) (by decide) hk (Nat.lt_of_le_of_lt hpN hN))
  have hl1 := few hmN hN
  have hl2 := few hpN hN
  have hu0 : m * 5 ^ k ≠ 0 := by have := Nat.mul_pos hm0 hpp; omega
  have c0 : decide ((0 : Int) ≤ -(k : Int)) = false := decide_eq_false (by omega)
  have hkn : ¬ (0 : Int) ≤ -(k : Int) := by omega
  have g0 : IntKind.i64.wrap (-(-(k : Int))) = (k : Int) := by rw [Int.neg_neg]; exact IntWalk.i64_in _ (by omega)
  have g0' : IntKind.i64.wrap (k : Int) = (k : Int) := IntWalk.i64_in _ (by omega)
  obtain ⟨P, hP⟩ : ∃ P, 5 ^ k = P := ⟨_, rfl⟩
  rw [hP] at PW hN hc hl2 hu0
  obtain ⟨w1, hw1⟩ : ∃ w1 : World, w.alloc (.cells #[.bool false, .slice none 0 0] 33) = w1 := ⟨_, rfl⟩
  obtain ⟨X, hX⟩ : ∃ X, w.heap.size = X := ⟨_, rfl⟩
  have hx1 := heap_alloc_new w (.cells #[.bool false, .slice none 0 0] 33)
  have hb1 : Below w.heap.size w w1 := by rw [← hw1]; exact (Below.refl _ _).alloc (Nat.le_refl _) _
  have hs1 : w1.heap.size = w.heap.size + 1 := by rw [← hw1]; simp
  rw [hw1, hX] at hx1
  rw [hX] at hb1 hs1
  have hml : 0 < (Fl.digL m).length := (Fl.digL_facts (by omega)).1
  have HW1 := Lib.hid (And.intro hw1 hX)
  have HN := Lib.hid (And.intro hc (And.intro hc0 (And.intro hz hu0)))
  clear hw1 hX hN hc hc0 hz hP hpp hmN hpN hu0
  go_enter Tryz.func17, Tryz.ntmps17
  go_upto_region 1 with fail
  rw [HW1.out.1, HW1.out.2]
  go_wp2_with fail
  refine (OM.out _).mono ?_
  rintro x w2 ⟨v1, rfl, ho1, hb2⟩
  obtain ⟨A1, c1, rfl, hc1, hr1⟩ := own_slice ho1
  have ha1 := own_addr ho1
  go_upto_if 12 with fail
  obtain ⟨Y, hY⟩ : ∃ Y, w2.heap.size = Y := ⟨_, rfl⟩
  obtain ⟨n1, hn1⟩ : ∃ n1, (Fl.digL m).length = n1 := ⟨_, rfl⟩
  rw [hn1] at hc1 hr1 hml
  have hblk : ExBlk w X Y A1 n1 c1 m (w2.alloc (Obj.cells #[Value.bool false, Value.slice A1 n1 c1] 33)) := by
    have s2 := hb2.size
    have hb4 : Below w2.heap.size w2 (w2.alloc (Obj.cells #[Value.bool false, Value.slice A1 n1 c1] 33)) := (Below.refl _ _).alloc (Nat.le_refl _) _
    refine ⟨?_, ?_, ⟨hc1, hr1.on hb4, ?_⟩, by omega, ?_⟩
    · exact alloc_kp ((hb2.block X (by omega)).trans hx1)
    · exact new_kp _ _ _ hY.symm
    · intro b off he
      have h1 := ha1 b off he
      obtain ⟨b', off', e, h2, _⟩ := hr1.2 hml
      rw [he] at e
      cases e
      omega
    · refine hb1.trans ((hb2.trans (hb4.mono hb2.size)).mono ?_)
      omega
  rw [hY, hn1]
  obtain ⟨w3, hw3⟩ : ∃ w3, w2.alloc (Obj.cells #[Value.bool false, Value.slice A1 n1 c1] 33) = w3 := ⟨_, rfl⟩
  rw [hw3] at hblk ⊢
  have p0 := at_block hblk.ba 0 _ rfl
  have p1 := at_block hblk.ba 1 _ rfl
  have HE := Lib.hid hblk
  clear hblk hw3 hY hn1 hr1 ha1 hc1 ho1 hb2 hb1 hs1 hx1
  go_cut [7] (fun t7 wx => ∃ A n cc, t7 = .int .i64 (-(k : Int)) ∧ ExBlk w X Y A n cc (m * P) wx)
  case first =>
    go_wp2_with fail
    go_region_with (first
      | (go_at_call 53; refine (PW.out _).mono ?_; rintro x w5 ⟨⟨A2, n2, c2, hc2, ha2, hr2, rfl⟩, hb5⟩; have E5 := HE.out.on' hb5 (by first | exact Below.refl _ _ | exact (Below.refl _ _).drew); have p50 := at_block E5.ba 0 _ rfl; have p51 := at_block E5.ba 1 _ rfl)
      | (go_at_call 52; refine (ex_mul E5 hr2 hl1 (by have h := hr2.1; rw [u8s_len] at h; omega) _ (by first | exact Below.refl _ _ | exact (Below.refl _ _).drew)).mono ?_; rintro x w6 ⟨⟨A3, n3, c3, hc3, ha3, hr3, rfl⟩, E6⟩; have r0 := at_block E6.ba 0 _ rfl; have r1 := at_block E6.ba 1 _ rfl; have s0 := free_block E6.ba 0; have s1 := free_block E6.ba 1))
    all_goals
      have E7 := E6.setA ⟨hc3, hr3, ha3⟩
      have HE7 := Lib.hid E7
      clear E5 E6 E7 hr2 hr3 hb5 ha2 ha3
      go_wp2_with fail
      go_meet
      exact ⟨_, _, _, rfl, HE7.out⟩
  case rest =>
    obtain ⟨A, n, cc, rfl, hblk⟩ := hcut
    obtain ⟨w8, hw8⟩ : ∃ W, W = wc := ⟨_, rfl⟩
    subst hw8
    clear p0 p1
    obtain ⟨hc, hc0, hz, hu0⟩ := HN.out
    obtain ⟨dz, hdz, hdz0⟩ := place_some (z := z) hc0
    have hplace : ∀ i, i < z → (Fl.digL (c * 10 ^ z))[i]? = some 0 := fun i hi => place_zero hc0 hi
    rw [← hc] at hdz hplace
    have hnl := hblk.ra.2.1.1
    rw [u8s_len] at hnl
    have hzn : z < n := by
      rcases Nat.lt_or_ge z n with h | h
      · exact h
      · rw [List.getElem?_eq_none (by omega)] at hdz; cases hdz
    have hdrop : (u8s (Fl.digL (m * P))).drop z = u8s (Fl.digL c) := by
      rw [hc, digL_zeros (by omega) z]
      simp [u8s]
    have hn0 : ((n : Int) == 0) = false := by rw [beq_eq_false_iff_ne]; omega
    have q0 := at_block hblk.ba 0 _ rfl
    have q1 := at_block hblk.ba 1 _ rfl
    have r0 := at_block hblk.bx 0 _ rfl
    have r1 := at_block hblk.bx 1 _ rfl
    have s0 := free_block hblk.bx 0
    have s1 := free_block hblk.bx 1
    have HB := Lib.hid (And.intro hblk hdrop)
    have HZ := Lib.hid (And.intro hdz hplace)
    clear hblk hdrop hdz hplace hc hc0 hu0 hnl
    go_wp2_with fail
    go_loopg [8] z (fun f t8 wx => ∃ i : Nat, t8 = .int .i64 (i : Int) ∧ i + f = z ∧ wx = w8)
    case atStart => exact ⟨0, rfl, by omega, rfl⟩
    case round =>
      obtain ⟨i, rfl, hif, hww⟩ := hrel
      subst hww
      obtain ⟨b, off, u, rfl, hbB, hu, hcell⟩ := HB.out.1.ra.2.1.at_ (k := i) (by omega)
      obtain ⟨x, hx, rfl⟩ := u8_at hu
      have hi0 : (0 : Int) ≤ (i : Int) := by omega
      have hin : (i : Int) < (n : Int) := by omega
      cases gk with
      | zero =>
        obtain rfl : i = z := by omega
        obtain rfl : x = dz := by have := HZ.out.1; rw [hx] at this; exact Option.some.inj this
        have hx0 : ((x : Int) == 0) = false := by rw [beq_eq_false_iff_ne]; omega
        have hx00 : ((x == 0) : Bool) = false := by rw [beq_eq_false_iff_ne]; exact hdz0
        have hle : (i : Int) ≤ (n : Int) := by omega
        have hle2 : (i : Int) ≤ (cc : Int) := by have := HB.out.1.ra.1; omega
        have hcn : (n : Int) ≤ (cc : Int) := by have := HB.out.1.ra.1; omega
        have hnz : (n : Int) - (i : Int) = ((n - i : Nat) : Int) := by omega
        have hcz : (cc : Int) - (i : Int) = ((cc - i : Nat) : Int) := by have := HB.out.1.ra.1; omega
        have g9 : IntKind.i64.wrap ((-(k : Int)) + (i : Int)) = (-(k : Int)) + (i : Int) := IntWalk.i64_in _ (by omega)
        clear hu hx hif
        go_wp2_with fail
        refine bodyPost_ret (v := .tuple #[.agg #[.bool false, .slice (some ⟨b, off + i, none⟩) (n - i) (cc - i)], .int .i64 (-(k : Int) + (i : Int))]) (by simp [results, Tryz.results17, go_sem, r0, r1]) rfl ?_
        obtain ⟨e1, e2⟩ := HB.out
        have hd := (e1.ra.2.1).drop i (by omega) b off rfl
        rw [e2] at hd
        refine ⟨⟨_, n - i, cc - i, by omega, ?_, rfl⟩, ?_⟩
        · refine hd.kept (by simp [World.setCell]) (fun b' off' he _ => ?_)
          have := e1.ra.2.2 b off rfl
          cases he
          rw [Below.heap_setCell _ _ _ _ (show b ≠ X by omega), Below.heap_setCell _ _ _ _ (show b ≠ X by omega)]
        · rw [HW1.out.2]
          exact (e1.bel.setCell (p := ⟨X, 0, none⟩) (Nat.le_refl _) _).setCell (p := ⟨X, 1, none⟩) (Nat.le_refl _) _
      | succ f =>
        obtain rfl : x = 0 := by have := HZ.out.2 i (by omega); rw [hx] at this; exact Option.some.inj this
        have g9 : IntKind.i64.wrap ((i : Int) + 1) = ((i + 1 : Nat) : Int) := by have := IntWalk.i64_in ((i : Int) + 1) (by omega); rw [this]; omega
        clear hu hx
        go_wp2_with fail
        go_roundg f
        case measure => omega
        case rel => exact ⟨i + 1, rfl, by omega, rfl⟩
end Go.Proofs.YtjapgpmoojfhnaaGreatDoor

namespace Go.Proofs.YtjapgpmoojfhnaaGreatDoor
open Go.RowKit Go.Lib

theorem one_few : 2 ^ 0 < 10 ^ 2000 := by
  obtain ⟨K, hK⟩ : ∃ K, K = 2000 := ⟨_, rfl⟩
  rw [← hK, Nat.pow_zero]
  exact Nat.one_lt_pow (by omega) (by decide)
set_option maxHeartbeats 4000000 in
set_option maxRecDepth 100000 in
theorem exact17_zero (w : World) :
    Calls Tryz.prog 17 #[.int .u64 0, .int .i64 0] w fun x w' => (∃ A cc, x = .returned (.tuple #[.agg #[.bool false, .slice A 0 cc], .int .i64 0])) ∧ Below w.heap.size w w' := by
  have OM := Lib.hid (fun W => of64_any 0 W (by decide))
  have PW := Lib.hid (fun W => power_any 2 0 W (by decide) (by decide) (by decide) one_few)
  have hl1 : (Fl.digL 0).length ≤ 2000 := by rw [Fl.digL_zero]; exact Nat.zero_le _
  have hl2 : (Fl.digL (2 ^ 0)).length ≤ 2000 := by rw [Nat.pow_zero, Fl.digL_pos (by decide), Fl.digL_zero]; decide
  obtain ⟨w1, hw1⟩ : ∃ w1 : World, w.alloc (.cells #[.bool false, .slice none 0 0] 33) = w1 := ⟨_, rfl⟩
  obtain ⟨X, hX⟩ : ∃ X, w.heap.size = X := ⟨_, rfl⟩
  have hx1 := heap_alloc_new w (.cells #[.bool false, .slice none 0 0] 33)
  have hb1 : Below w.heap.size w w1 := by rw [← hw1]; exact (Below.refl _ _).alloc (Nat.le_refl _) _
  have hs1 : w1.heap.size = w.heap.size + 1 := by rw [← hw1]; simp
  rw [hw1, hX] at hx1
  rw [hX] at hb1 hs1
  have HW1 := Lib.hid (And.intro hw1 hX)
  clear hw1 hX
  go_enter Tryz.func17, Tryz.ntmps17
  go_upto_region 1 with fail
  rw [HW1.out.1, HW1.out.2]
  go_wp2_with fail
  refine (OM.out _).mono ?_
  rintro x w2 ⟨v1, rfl, ho1, hb2⟩
  obtain ⟨A1, c1, rfl, hc1, hr1⟩ := own_slice ho1
  have hA1 : A1 = none ∨ ∃ b off, A1 = some ⟨b, off, none⟩ ∧ X < b ∧ b < w2.heap.size := by
    rcases ho1.2 with ⟨hv, _⟩ | ⟨g', cap, cur, hv, hb, hg, _⟩
    · left; injection hv with hv1 _ _
    · right
      injection hv with hv1
      exact ⟨g', 0, hv1, by omega, lt_of_block hg⟩
  go_upto_if 12 with fail
  obtain ⟨Y, hY⟩ : ∃ Y, w2.heap.size = Y := ⟨_, rfl⟩
  have hblk : ExBlk w X Y A1 (Fl.digL 0).length c1 0 (w2.alloc (Obj.cells #[Value.bool false, Value.slice A1 (Fl.digL 0).length c1] 33)) := by
    have s2 := hb2.size
    have hb4 : Below w2.heap.size w2 (w2.alloc (Obj.cells #[Value.bool false, Value.slice A1 (Fl.digL 0).length c1] 33)) := (Below.refl _ _).alloc (Nat.le_refl _) _
    refine ⟨?_, ?_, ⟨hc1, hr1.on hb4, ?_⟩, by omega, ?_⟩
    · exact alloc_kp ((hb2.block X (by omega)).trans hx1)
    · exact new_kp _ _ _ hY.symm
    · intro b off he
      rcases hA1 with h | ⟨b', off', h, h2, h3⟩
      · rw [h] at he; cases he
      · rw [h] at he; cases he; omega
    · refine hb1.trans ((hb2.trans (hb4.mono hb2.size)).mono ?_)
      omega
  rw [hY]
  obtain ⟨n1, hn1⟩ : ∃ n1, (Fl.digL 0).length = n1 := ⟨_, rfl⟩
  rw [hn1] at hblk ⊢
  obtain ⟨w3, hw3⟩ : ∃ w3, w2.alloc (Obj.cells #[Value.bool false, Value.slice A1 n1 c1] 33) = w3 := ⟨_, rfl⟩
  rw [hw3] at hblk ⊢
  have p0 := at_block hblk.ba 0 _ rfl
  have p1 := at_block hblk.ba 1 _ rfl
  have HE := Lib.hid hblk
  clear hblk hw3 hY hr1 hc1 ho1 hb2 hb1 hs1 hx1 hA1 hn1
  obtain ⟨P, hP⟩ : ∃ P, 2 ^ 0 = P := ⟨_, rfl⟩
  rw [hP] at PW hl2
  clear hP
  go_cut [7] (fun t7 wx => ∃ A n cc, t7 = .int .i64 0 ∧ ExBlk w X Y A n cc (0 * P) wx)
  case first =>
    go_wp2_with fail
    go_region_with (first
      | (go_at_call 53; refine (PW.out _).mono ?_; rintro x w5 ⟨⟨A2, n2, c2, hc2, ha2, hr2, rfl⟩, hb5⟩; have E5 := HE.out.on' hb5 (by first | exact Below.refl _ _ | exact (Below.refl _ _).drew); have p50 := at_block E5.ba 0 _ rfl; have p51 := at_block E5.ba 1 _ rfl)
      | (go_at_call 52; refine (ex_mul E5 hr2 hl1 (by have h := hr2.1; rw [u8s_len] at h; omega) _ (by first | exact Below.refl _ _ | exact (Below.refl _ _).drew)).mono ?_; rintro x w6 ⟨⟨A3, n3, c3, hc3, ha3, hr3, rfl⟩, E6⟩; have r0 := at_block E6.ba 0 _ rfl; have r1 := at_block E6.ba 1 _ rfl; have s0 := free_block E6.ba 0; have s1 := free_block E6.ba 1))
    all_goals
      have E7 := E6.setA ⟨hc3, hr3, ha3⟩
      have HE7 := Lib.hid E7
      clear E5 E6 E7 hr2 hr3 hb5 ha2 ha3
      go_wp2_with fail
      go_meet
      exact ⟨_, _, _, rfl, HE7.out⟩
  case rest =>
    obtain ⟨A, n, cc, rfl, hblk⟩ := hcut
    obtain ⟨w8, hw8⟩ : ∃ W, W = wc := ⟨_, rfl⟩
    subst hw8
    clear p0 p1
    have hnl := hblk.ra.2.1.1
    rw [u8s_len, Nat.zero_mul, Fl.digL_zero] at hnl
    obtain rfl : n = 0 := hnl.symm
    have q0 := at_block hblk.ba 0 _ rfl
    have q1 := at_block hblk.ba 1 _ rfl
    have r0 := at_block hblk.bx 0 _ rfl
    have r1 := at_block hblk.bx 1 _ rfl
    have s0 := free_block hblk.bx 0
    have s1 := free_block hblk.bx 1
    have HB := Lib.hid hblk
    clear hblk hnl
    go_wp2_with fail
    refine bodyPost_ret (v := .tuple #[.agg #[.bool false, .slice A 0 cc], .int .i64 0]) (by simp [results, Tryz.results17, go_sem, r0, r1]) rfl ?_
    refine ⟨⟨A, cc, rfl⟩, ?_⟩
    rw [HW1.out.2]
    exact (HB.out.bel.setCell (p := ⟨X, 0, none⟩) (Nat.le_refl _) _).setCell (p := ⟨X, 1, none⟩) (Nat.le_refl _) _
end Go.Proofs.YtjapgpmoojfhnaaGreatDoor

namespace Go.Proofs.YtjapgpmoojfhnaaGreatDoor
open Go.RowKit Go.Lib

/-- What the law's walk leans on. -/
theorem box_float2 (k : Int) (neg : Bool) (m : Int) (e : Int) (A : Option Addr) (n c : Nat) {w2 : World} {X : Nat} (w5 : World) (hX : ∀ W, Below w2.heap.size w2 W → W.cell? ⟨X, 0, none⟩ = some (.int .i64 k) ∧ W.cell? ⟨X, 1, none⟩ = some (.bool neg) ∧ W.cell? ⟨X, 2, none⟩ = some (.int .u64 m) ∧ W.cell? ⟨X, 3, none⟩ = some (.int .i64 e) ∧ Below w2.heap.size w2 W) (hb : Below w2.heap.size w2 w5) :
    ∃ (w6 : World) (Y : Nat), w5.alloc (.cells #[.bool false, .slice A n c] 33) = w6 ∧ w5.heap.size = Y ∧ Below w5.heap.size w5 w6 ∧ X ≠ Y ∧
    ∀ W, Below w6.heap.size w6 W → W.cell? ⟨X, 0, none⟩ = some (.int .i64 k) ∧ W.cell? ⟨X, 1, none⟩ = some (.bool neg) ∧ W.cell? ⟨X, 2, none⟩ = some (.int .u64 m) ∧ W.cell? ⟨X, 3, none⟩ = some (.int .i64 e) ∧ W.cell? ⟨Y, 0, none⟩ = some (.bool false) ∧ W.cell? ⟨Y, 1, none⟩ = some (.slice A n c) ∧ Below w6.heap.size w6 W := by
  have hb6 : Below w5.heap.size w5 (w5.alloc (.cells #[.bool false, .slice A n c] 33)) := (Below.refl _ _).alloc (Nat.le_refl _) _
  have hx := (hX w5 hb).1
  refine ⟨_, _, rfl, rfl, hb6, ?_, fun W hW => ?_⟩
  · intro he
    rw [he] at hx
    simp [World.cell?] at hx
  · obtain ⟨a0, a1, a2, a3, _⟩ := hX W (hb.trans ((hb6.trans (hW.mono hb6.size)).mono hb.size))
    have h1 := (hW.block w5.heap.size (by simp)).trans (heap_alloc_new w5 _)
    exact ⟨a0, a1, a2, a3, at_block h1 0 _ rfl, at_block h1 1 _ rfl, hW⟩
theorem f6 {A B C D E F G : Prop} (h : A ∧ B ∧ C ∧ D ∧ E ∧ F ∧ G) : G := h.2.2.2.2.2.2
theorem f6_trans {A B C D E F : Prop} {a W W' : World} (h : A ∧ B ∧ C ∧ D ∧ E ∧ F ∧ Below a.heap.size a W) (hb : Below W.heap.size W W') : Below a.heap.size a W' := (f6 h).trans (hb.mono (f6 h).size)
structure D3 (b : Nat) (B : Nat × Nat) (ng g : Bool) (M : Nat) (e x : Int) (SF S D T : ByteArray) (n : Nat) : Prop where
  fb : ∀ W, Calls Tryz.prog 13 #[.int .u64 (b : Int), .int .i64 64] W fun x w' => x = .returned (.agg #[.int .i64 0, .bool ng, .int .u64 (M : Int), .int .i64 e]) ∧ Below W.heap.size W w'
  tx : ∀ W, Calls Tryz.prog 15 #[.agg #[.int .i64 0, .bool ng, .int .u64 (M : Int), .int .i64 e]] W fun x w' => x = .returned (.string SF) ∧ Below W.heap.size W w'
  de : ∀ W, Laid W → Calls Tryz.prog 14 #[.string SF] W fun x w' => x = .returned (.tuple #[.string S, .int .i64 0]) ∧ Below W.heap.size W w'
  ex : ∀ W, Calls Tryz.prog 17 #[.int .u64 (M : Int), .int .i64 e] W fun y w' => (∃ A cc, y = .returned (.tuple #[.agg #[.bool false, .slice A n cc], .int .i64 x]) ∧
    ∀ W', Below w'.heap.size w' W' → Calls Tryz.prog 19 #[.agg #[.bool false, .slice A n cc]] W' fun z w2 => z = .returned (.string D) ∧ Below W'.heap.size W' w2) ∧ Below W.heap.size W w'
  hn : n ≤ 400
  hg : (ng && decide (0 < M)) = g
  ne : ∀ W, Laid2 W B → Calls Tryz.prog 20 #[.string S] W fun x w' => x = .returned (.tuple #[.string T, .bool true, .int .i64 0]) ∧ Below W.heap.size W w'
  dt : ∀ W, Calls Tryz.prog 21 #[.agg #[.bool g, .string D, .int .i64 x]] W fun x w' => x = .returned (.string S) ∧ Below W.heap.size W w'
  bt : ∀ W, Calls Tryz.prog 15 #[.agg #[.int .i64 0, .bool g, .int .u64 (M : Int), .int .i64 e]] W fun x w' => x = .returned (.string T) ∧ Below W.heap.size W w'
set_option maxHeartbeats 4000000 in
set_option maxRecDepth 100000 in
theorem law3_core (b : Nat) (B : Nat × Nat) (ng g : Bool) (M : Nat) (e x : Int) (SF S D T : ByteArray) (n : Nat) (hH : D3 b B ng g M e x SF S D T n) (w : World) (hL : Laid2 w B) :
    Calls Tryz.prog 3 #[.int .u64 (b : Int)] w fun x w' => x = .returned (.bool true) ∧ Below w.heap.size w w' := by
  have FB := Lib.hid hH.fb
  have TX := Lib.hid hH.tx
  have DE := Lib.hid hH.de
  have EX := Lib.hid hH.ex
  have NE := Lib.hid hH.ne
  have DT := Lib.hid hH.dt
  have BT := Lib.hid hH.bt
  have AW := Lib.hid (fun W hW => awake_any W hW)
  have hn := hH.hn
  have hg := Lib.hid hH.hg
  have HL := Lib.hid hL
  have c400 : decide (400 < n) = false := decide_eq_false (by omega)
  clear hH hL
  go_enter Tryz.func3, Tryz.ntmps3
  go_wp2_with fail
  refine (FB.out _).mono ?_
  rintro y w1 ⟨rfl, hb1⟩
  go_upto_region 2 with fail
  obtain ⟨w2, X, hw2, hX, hb2, hcells⟩ := box_float 0 ng (M : Int) e w1
  rw [hw2, hX]
  have hb2 := b_trans hb1 hb2
  have HC := Lib.hid hcells
  have hx := hcells w2 (Below.refl _ _)
  clear hw2 hX hcells hb1
  obtain ⟨x0, x1, x2, x3, _⟩ := hx
  go_wp2_with fail
  refine (TX.out _).mono ?_
  rintro y w3 ⟨rfl, hb3⟩
  go_wp2_with fail
  refine (DE.out _ (HL.out.laid.on (b_trans hb2 hb3))).mono ?_
  rintro y w4 ⟨rfl, hb4⟩
  have hb4' := b_trans hb3 hb4
  clear x0 x1 x2 x3
  obtain ⟨x0, x1, x2, x3, _⟩ := HC.out w4 hb4'
  go_wp2_with fail
  refine (EX.out _).mono ?_
  rintro y w5 ⟨⟨A, cc, rfl, IT⟩, hb5⟩
  have hb5' := b_trans hb4' hb5
  have IT := Lib.hid IT
  go_upto_region 6 with fail
  obtain ⟨w6, Y, hw6, hY, hb6, hXY, hcells⟩ := box_float2 0 ng (M : Int) e A n cc w5 HC.out hb5'
  rw [hw6, hY]
  have hb6' := b_trans (b_trans hb2 hb5') hb6
  have IT6 := Lib.hid (fun W (hW : Below w6.heap.size w6 W) => IT.out W (b_trans hb6 hW))
  have HC6 := Lib.hid hcells
  have LG := Lib.hid (fun W => long18 false A n cc W)
  rw [c400] at LG
  have HB6 := Lib.hid hb6'
  have hx := hcells w6 (Below.refl _ _)
  clear hw6 hY hb6 hb6' hcells hb5 hb5' hb4 hb4' hb3 hb2 x0 x1 x2 x3
  obtain ⟨x0, x1, x2, x3, y0, y1, _⟩ := hx
  go_wp2_with fail
  refine (LG.out _).mono ?_
  rintro y w7 ⟨rfl, hb7⟩
  clear x0 x1 x2 x3 y0 y1
  have hh := HC6.out w7 hb7
  have hh0 := hh
  obtain ⟨x0, x1, x2, x3, y0, y1, _⟩ := hh0
  go_upto_region 8 with fail
  go_cut [8] (fun t8 wx => ∃ G, t8 = .pointer (some ⟨G, 0, none⟩) ∧ wx.heap[G]? = some (.cells #[.bool g, .string D, .int .i64 x] 37 (0, 0)) ∧ Below w6.heap.size w6 wx)
  case first =>
    cases ng with
    | true =>
      have hgt := hg.out
      go_region_held3 (fun W => W.cell? ⟨X, 0, none⟩ = some (.int .i64 0) ∧ W.cell? ⟨X, 1, none⟩ = some (.bool true) ∧ W.cell? ⟨X, 2, none⟩ = some (.int .u64 (M : Int)) ∧ W.cell? ⟨X, 3, none⟩ = some (.int .i64 e) ∧ W.cell? ⟨Y, 0, none⟩ = some (.bool false) ∧ W.cell? ⟨Y, 1, none⟩ = some (.slice A n cc) ∧ Below w6.heap.size w6 W)
        ((refine HC6.out _ ?_; with_reducible (repeat' (first | assumption | exact f6 (by assumption) | exact b_drew hb7 | refine b_drew ?_ | refine b_alloc ?_ _ | refine b_set ?_ ?_ _ | exact hb7.size | exact hS11.size)); done))
        (first | (go_at_call 19; refine (IT6.out _ (f6 (by assumption))).mono ?_; rintro x w11 ⟨rfl, hb11⟩; have hS11 := f6_trans (by assumption) hb11; first | (have B1 := alloc_kept hb11; have t0 := at_block B1 0 _ rfl; have t1 := at_block B1 1 _ rfl; have t2 := at_block B1 2 _ rfl; have u0 := free_block B1 0; have u1 := free_block B1 1; have u2 := free_block B1 2) | (have B1 := alloc_kept' hb11; have t0 := at_block B1 0 _ rfl; have t1 := at_block B1 1 _ rfl; have t2 := at_block B1 2 _ rfl; have u0 := free_block B1 0; have u1 := free_block B1 1; have u2 := free_block B1 2) | skip))
      all_goals go_wp2_with fail
      all_goals go_meet
      all_goals first
        | exact ⟨_, rfl, heap_alloc_new w11 _, b_alloc hS11 _⟩
        | exact ⟨_, rfl, block_set (block_set (block_set B1 0 _) 1 _) 2 _, b_set (b_set (b_set hS11 hb7.size _) hb7.size _) hb7.size _⟩
    | false =>
      obtain rfl : g = false := by rw [← hg.out]; rfl
      refine wp_region_held_drew (S := fun W => W.cell? ⟨X, 0, none⟩ = some (.int .i64 0) ∧ W.cell? ⟨X, 1, none⟩ = some (.bool false) ∧ W.cell? ⟨X, 2, none⟩ = some (.int .u64 (M : Int)) ∧ W.cell? ⟨X, 3, none⟩ = some (.int .i64 e) ∧ W.cell? ⟨Y, 0, none⟩ = some (.bool false) ∧ W.cell? ⟨Y, 1, none⟩ = some (.slice A n cc) ∧ Below w6.heap.size w6 W) (by kernel_rfl) (HC6.out _ (b_drew hb7)) (fun hHeld => ?_)
      refine wpAnyH_take (i := 0) (v := .pointer (some ⟨X, 1, none⟩)) rfl (by kernel_rfl) (by kernel_rfl) (by kernel_rfl) (fun _ _ _ h => h) (Or.inl ⟨by rfl, ?_⟩) hHeld ?_
      · intro W ⟨r0, r1, r2, r3, r4, r5, r6⟩; go_simp
      try simp only [Act.put, List.setIfInBounds_toArray, List.set_cons_zero, List.set_cons_succ, List.getElem_toArray, List.getElem_cons_zero]
      refine wpAnyH_take (i := 1) (v := .bool false) rfl (by kernel_rfl) (by kernel_rfl) (by kernel_rfl) (fun _ _ _ h => h) (Or.inl ⟨by rfl, ?_⟩) hHeld ?_
      · intro W ⟨r0, r1, r2, r3, r4, r5, r6⟩; go_simp
      try simp only [Act.put, List.setIfInBounds_toArray, List.set_cons_zero, List.set_cons_succ, List.getElem_toArray, List.getElem_cons_zero, List.getElem_cons_succ]
      refine wpAnyH_take (i := 2) (v := .bool false) rfl (by kernel_rfl) (by kernel_rfl) (by kernel_rfl) (fun _ _ _ h => h) (Or.inl ⟨by rfl, ?_⟩) hHeld ?_
      · intro W ⟨r0, r1, r2, r3, r4, r5, r6⟩; go_simp
      try simp only [Act.put, List.setIfInBounds_toArray, List.set_cons_zero, List.set_cons_succ, List.getElem_toArray, List.getElem_cons_zero, List.getElem_cons_succ]
      refine wpAnyH_take (i := 3) (v := undef) rfl (by kernel_rfl) (by kernel_rfl) (by kernel_rfl) (fun _ _ _ h => h) (Or.inr ⟨by rfl, rfl⟩) hHeld ?_
      try simp only [Act.put, List.setIfInBounds_toArray, List.set_cons_zero, List.set_cons_succ, List.getElem_toArray, List.getElem_cons_zero, List.getElem_cons_succ]
      refine wpAnyH_take (i := 4) (v := undef) rfl (by kernel_rfl) (by kernel_rfl) (by kernel_rfl) (fun _ _ _ h => h) (Or.inr ⟨by rfl, rfl⟩) hHeld ?_
      try simp only [Act.put, List.setIfInBounds_toArray, List.set_cons_zero, List.set_cons_succ, List.getElem_toArray, List.getElem_cons_zero, List.getElem_cons_succ]
      refine wpAnyH_take (i := 5) (v := undef) rfl (by kernel_rfl) (by kernel_rfl) (by kernel_rfl) (fun _ _ _ h => h) (Or.inr ⟨by rfl, rfl⟩) hHeld ?_
      try simp only [Act.put, List.setIfInBounds_toArray, List.set_cons_zero, List.set_cons_succ, List.getElem_toArray, List.getElem_cons_zero, List.getElem_cons_succ]
      refine wpAnyH_take (i := 6) (v := .bool false) rfl (by kernel_rfl) (by kernel_rfl) (by kernel_rfl) (fun _ _ _ h => h) (Or.inl ⟨by rfl, ?_⟩) hHeld ?_
      · intro W ⟨r0, r1, r2, r3, r4, r5, r6⟩; go_simp
      try simp only [Act.put, List.setIfInBounds_toArray, List.set_cons_zero, List.set_cons_succ, List.getElem_toArray, List.getElem_cons_zero, List.getElem_cons_succ]
      refine wpAnyH_take (i := 7) (v := .agg #[.bool false, .slice A n cc]) rfl (by kernel_rfl) (by kernel_rfl) (by kernel_rfl) (fun _ _ _ h => h) (Or.inl ⟨by rfl, ?_⟩) hHeld ?_
      · intro W ⟨r0, r1, r2, r3, r4, r5, r6⟩; go_simp
      try simp only [Act.put, List.setIfInBounds_toArray, List.set_cons_zero, List.set_cons_succ, List.getElem_toArray, List.getElem_cons_zero, List.getElem_cons_succ]
      refine wpAnyH_take (i := 9) (v := .int .i64 x) rfl (by kernel_rfl) (by kernel_rfl) (by kernel_rfl) (fun _ _ _ h => h) (Or.inl ⟨by rfl, ?_⟩) hHeld ?_
      · intro W ⟨r0, r1, r2, r3, r4, r5, r6⟩; go_simp
      try simp only [Act.put, List.setIfInBounds_toArray, List.set_cons_zero, List.set_cons_succ, List.getElem_toArray, List.getElem_cons_zero, List.getElem_cons_succ]
      refine wpAnyH_ready (rs := [8, 11]) (by kernel_rfl) (by simp) ?_
      refine AllReadyH.cons rfl (fun K hK => ?_) (AllReadyH.cons rfl (fun K hK => ?_) AllReadyH.nil)
      · rw [if_pos (by rfl)]
        go_simp
        refine (IT6.out _ (b_drew hb7)).mono ?_
        rintro z w11 ⟨rfl, hb11⟩
        have hS11 := b_trans (b_drew hb7) hb11
        refine hK.out _ _ (HC6.out _ hS11) (fun hHeld => ?_)
        clear hK K
        try simp only [Act.put, List.setIfInBounds_toArray, List.set_cons_zero, List.set_cons_succ, List.getElem_toArray, List.getElem_cons_zero, List.getElem_cons_succ]
        refine wpAnyH_take (i := 10) (v := .agg #[.bool false, .string D, .int .i64 x]) rfl (by kernel_rfl) (by kernel_rfl) (by kernel_rfl) (fun _ _ _ h => h) (Or.inl ⟨by rfl, ?_⟩) hHeld ?_
        · intro W ⟨r0, r1, r2, r3, r4, r5, r6⟩; go_simp
        try simp only [Act.put, List.setIfInBounds_toArray, List.set_cons_zero, List.set_cons_succ, List.getElem_toArray, List.getElem_cons_zero, List.getElem_cons_succ]
        refine wpAnyH_ready (rs := [11]) (by kernel_rfl) (by simp) ?_
        refine AllReadyH.cons rfl (fun K hK => ?_) AllReadyH.nil
        rw [if_pos (by rfl)]
        go_simp
        refine hK.out _ _ (HC6.out _ (b_alloc hS11 _)) (fun hHeld => ?_)
        clear hK K
        try simp only [Act.put, List.setIfInBounds_toArray, List.set_cons_zero, List.set_cons_succ, List.getElem_toArray, List.getElem_cons_zero, List.getElem_cons_succ]
        refine wpAnyH_ready (rs := [12]) (by kernel_rfl) (by simp) ?_
        refine AllReadyH.cons rfl (fun K hK => ?_) AllReadyH.nil
        rw [if_pos (by rfl)]
        have B1 := heap_alloc_new w11 (.cells #[.bool false, .string ⟨#[]⟩, .int .i64 0] 37)
        have t0 := at_block B1 0 _ rfl
        have t1 := at_block B1 1 _ rfl
        have t2 := at_block B1 2 _ rfl
        have u0 := free_block B1 0
        have u1 := free_block B1 1
        have u2 := free_block B1 2
        go_simp
        refine hK.out _ _ (HC6.out _ (b_alloc hS11 _)) (fun hHeld => ?_)
        clear hK K
        try simp only [Act.put, List.setIfInBounds_toArray, List.set_cons_zero, List.set_cons_succ, List.getElem_toArray, List.getElem_cons_zero, List.getElem_cons_succ]
        refine wpAnyH_done (by kernel_rfl) ?_ _
        go_wp2_with fail
        go_meet
        exact ⟨_, rfl, heap_alloc_new w11 _, b_alloc hS11 _⟩
      · rw [if_pos (by rfl)]
        go_simp
        refine hK.out _ _ (HC6.out _ (b_alloc (b_drew hb7) _)) (fun hHeld => ?_)
        clear hK K
        try simp only [Act.put, List.setIfInBounds_toArray, List.set_cons_zero, List.set_cons_succ, List.getElem_toArray, List.getElem_cons_zero, List.getElem_cons_succ]
        refine wpAnyH_ready (rs := [8]) (by kernel_rfl) (by simp) ?_
        refine AllReadyH.cons rfl (fun K hK => ?_) AllReadyH.nil
        rw [if_pos (by rfl)]
        go_simp
        refine (IT6.out _ (b_alloc (b_drew hb7) _)).mono ?_
        rintro z w11 ⟨rfl, hb11⟩
        have hS11 := b_trans (b_alloc (b_drew hb7) _) hb11
        have B1 : w11.heap[w7.heap.size]? = some (.cells #[.bool false, .string ⟨#[]⟩, .int .i64 0] 37 (0, 0)) := alloc_kept' (w := w7.drew) hb11
        refine hK.out _ _ (HC6.out _ hS11) (fun hHeld => ?_)
        clear hK K
        try simp only [Act.put, List.setIfInBounds_toArray, List.set_cons_zero, List.set_cons_succ, List.getElem_toArray, List.getElem_cons_zero, List.getElem_cons_succ]
        refine wpAnyH_take (i := 10) (v := .agg #[.bool false, .string D, .int .i64 x]) rfl (by kernel_rfl) (by kernel_rfl) (by kernel_rfl) (fun _ _ _ h => h) (Or.inl ⟨by rfl, ?_⟩) hHeld ?_
        · intro W ⟨r0, r1, r2, r3, r4, r5, r6⟩; go_simp
        try simp only [Act.put, List.setIfInBounds_toArray, List.set_cons_zero, List.set_cons_succ, List.getElem_toArray, List.getElem_cons_zero, List.getElem_cons_succ]
        refine wpAnyH_ready (rs := [12]) (by kernel_rfl) (by simp) ?_
        refine AllReadyH.cons rfl (fun K hK => ?_) AllReadyH.nil
        rw [if_pos (by rfl)]
        have t0 := at_block B1 0 _ rfl
        have t1 := at_block B1 1 _ rfl
        have t2 := at_block B1 2 _ rfl
        have u0 := free_block B1 0
        have u1 := free_block B1 1
        have u2 := free_block B1 2
        go_simp
        refine hK.out _ _ (HC6.out _ (b_set (b_set (b_set hS11 hb7.size _) hb7.size _) hb7.size _)) (fun hHeld => ?_)
        clear hK K
        try simp only [Act.put, List.setIfInBounds_toArray, List.set_cons_zero, List.set_cons_succ, List.getElem_toArray, List.getElem_cons_zero, List.getElem_cons_succ]
        refine wpAnyH_done (by kernel_rfl) ?_ _
        go_wp2_with fail
        go_meet
        exact ⟨_, rfl, block_set (block_set (block_set B1 0 _) 1 _) 2 _, b_set (b_set (b_set hS11 hb7.size _) hb7.size _) hb7.size _⟩
  case rest =>
    obtain ⟨G, rfl, hG, hb8⟩ := hcut
    obtain ⟨w8, hw8⟩ : ∃ W, W = wc := ⟨_, rfl⟩
    subst hw8
    clear x0 x1 x2 x3 y0 y1 hh hb7
    have HG := Lib.hid hG
    have hL8 := HL.out.on (b_trans HB6.out hb8)
    clear hG
    go_wp2_with fail
    refine (NE.out _ hL8).mono ?_
    rintro y w9 ⟨rfl, hb9⟩
    have hb9' := b_trans hb8 hb9
    obtain ⟨x0, x1, x2, x3, y0, y1, _⟩ := HC6.out w9 hb9'
    go_upto_region 11 with fail
    have hZ := heap_alloc_new w9 (.cells #[.int .i64 0, .bool ng, .int .u64 (M : Int), .int .i64 e] 24)
    have hb10 := b_alloc hb9' (.cells #[.int .i64 0, .bool ng, .int .u64 (M : Int), .int .i64 e] 24)
    obtain ⟨w10, hw10⟩ : ∃ w10, w9.alloc (.cells #[.int .i64 0, .bool ng, .int .u64 (M : Int), .int .i64 e] 24) = w10 := ⟨_, rfl⟩
    obtain ⟨Z, hZZ⟩ : ∃ Z, w9.heap.size = Z := ⟨_, rfl⟩
    have hG10 : w10.heap[G]? = some (.cells #[.bool g, .string D, .int .i64 x] 37 (0, 0)) := by
      rw [← hw10]
      exact alloc_kp ((hb9.block G (lt_of_block HG.out)).trans HG.out)
    have hGZ : G ≠ Z := by
      have h1 := lt_of_block HG.out
      have h2 := hb9.size
      omega
    have hZ6 : w6.heap.size ≤ Z := by rw [← hZZ]; exact hb9'.size
    rw [hw10, hZZ] at hZ
    rw [hw10] at hb10
    rw [hw10, hZZ]
    clear x0 x1 x2 x3 y0 y1 hw10 hZZ hb9 hb9' hb8 hL8
    obtain ⟨x0, x1, x2, x3, y0, y1, _⟩ := HC6.out w10 hb10
    have z1 := at_block hZ 1 _ rfl
    have zf := free_block hZ 1
    have HZ := Lib.hid (And.intro hZ (And.intro hG10 (And.intro hGZ (And.intro hb10 hZ6))))
    clear hZ hG10 hGZ hb10 hZ6
    go_cut [12] (fun t12 wx => t12 = .pointer (some ⟨Z, 0, none⟩) ∧ wx = w10.setCell ⟨Z, 1, none⟩ (.bool g))
    case first =>
      cases ng with
      | true =>
        have hg1 : decide (0 < M) = g := by rw [← hg.out]; simp
        have hg2 : decide ((0 : Int) < (M : Int)) = g := by rw [← hg1]; simp
        go_wp2_with fail
        go_meet
        exact ⟨rfl, by first | rfl | rw [hg1] | rw [hg2]⟩
      | false =>
        obtain rfl : g = false := by rw [← hg.out]; rfl
        go_wp2_with fail
        go_meet
        exact ⟨rfl, rfl⟩
    case rest =>
      obtain ⟨rfl, rfl⟩ := hcut
      clear x0 x1 x2 x3 y0 y1 z1 zf
      obtain ⟨hZ, hG10, hGZ, hb10, hZ6⟩ := HZ.out
      have hZ11 : (w10.setCell ⟨Z, 1, none⟩ (.bool g)).heap[Z]? = some (.cells #[.int .i64 0, .bool g, .int .u64 (M : Int), .int .i64 e] 24 (0, 0)) := block_set hZ 1 _
      have hG11 : (w10.setCell ⟨Z, 1, none⟩ (.bool g)).heap[G]? = some (.cells #[.bool g, .string D, .int .i64 x] 37 (0, 0)) := by
        rw [Below.heap_setCell _ _ _ _ hGZ]; exact hG10
      have hb11 := b_set (j := 1) hb10 hZ6 (.bool g)
      obtain ⟨w11, hw11⟩ : ∃ w11, w10.setCell ⟨Z, 1, none⟩ (.bool g) = w11 := ⟨_, rfl⟩
      rw [hw11] at hZ11 hG11 hb11 ⊢
      have g0 := at_block hG11 0 _ rfl
      have g1 := at_block hG11 1 _ rfl
      have g2 := at_block hG11 2 _ rfl
      have HZ11 := Lib.hid (fun W (hW : Below w11.heap.size w11 W) => (hW.block Z (lt_of_block hZ11)).trans hZ11)
      have HB11 := Lib.hid (b_trans HB6.out hb11)
      clear hZ hG10 hGZ hb10 hZ6 hZ11 hG11 hb11 hw11
      go_wp2_with fail
      refine (DT.out _).mono ?_
      rintro y w12 ⟨rfl, hb12⟩
      have hZ12 := HZ11.out w12 hb12
      have z0 := at_block hZ12 0 _ rfl
      have z1 := at_block hZ12 1 _ rfl
      have z2 := at_block hZ12 2 _ rfl
      have z3 := at_block hZ12 3 _ rfl
      have hb12' := b_trans HB11.out hb12
      have HL12 := Lib.hid (HL.out.laid.on hb12')
      clear hZ12
      go_wp2_with fail
      refine (BT.out _).mono ?_
      rintro y w13 ⟨rfl, hb13⟩
      go_wp2_with fail
      refine (AW.out _ (HL12.out.on hb13)).mono ?_
      rintro y w14 ⟨rfl, hb14⟩
      go_wp2_with fail
      go_ret
      exact ⟨rfl, b_trans (b_trans hb12' hb13) hb14⟩
end Go.Proofs.YtjapgpmoojfhnaaGreatDoor
