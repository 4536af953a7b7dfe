/- Numbers in boxes of one's own: a store into a box is none into a number's digits. The reference's shifted. ref.Nearest: what it holds in its boxes; how it ends. -/
import Derived.Test.YtjapgpmoojfhnaaGreatDoorB09
import Derived.Test.YtjapgpmoojfhnaaGreatDoorB14
import Derived.Test.YtjapgpmoojfhnaaGreatDoorB39
import Derived.Test.YtjapgpmoojfhnaaGreatDoorB41
set_option maxHeartbeats 16000000
set_option maxRecDepth 100000
set_option linter.unusedSimpArgs false
set_option linter.unusedVariables false
namespace Go.Proofs.YtjapgpmoojfhnaaGreatDoor
open Go.RowKit Go.Lib
def NoByte (cs : Array Value) : Prop := ∀ (i : Nat) (x : Int), cs[i]? ≠ some (.int .u8 x)
theorem nb33 (b : Bool) (A : Option Addr) (n c : Nat) : NoByte #[.bool b, .slice A n c] := by
 intro i x
 rcases i with _ | _ | i <;> simp
theorem reads_off {w : World} {B : Nat} {A : Option Addr} {n : Nat} {l : List Nat} {g : Nat} {cs : Array Value} {t : TypeId} {fr : Nat × Nat} (h : Reads w B A n (u8s l)) (hg : w.heap[g]? = some (.cells cs t fr)) (hcs : NoByte cs) (hn : 0 < n) : ∀ b off, A = some ⟨b, off, none⟩ → b ≠ g := by
 rintro b off rfl rfl
 obtain ⟨b', o', u, he, hb, hu, hc⟩ := h.at_ (k := 0) hn
 obtain ⟨rfl, rfl⟩ : b = b' ∧ off = o' := by simpa using he
 obtain ⟨x, hx, rfl⟩ := u8_at hu
 simp only [World.cell?, hg] at hc
 exact hcs _ _ (by simpa using hc)
theorem reads_set {w : World} {A : Option Addr} {n : Nat} {l : List Nat} {g : Nat} {cs : Array Value} {t : TypeId} {fr : Nat × Nat} (h : Reads w w.heap.size A n (u8s l)) (hg : w.heap[g]? = some (.cells cs t fr)) (hcs : NoByte cs) (i : Nat) (v : Value) : Reads (w.setCell ⟨g, i, none⟩ v) (w.setCell ⟨g, i, none⟩ v).heap.size A n (u8s l) := by
 by_cases hn : 0 < n
 · refine h.kept (by simp [World.setCell]) (fun b off he _ => Below.heap_setCell _ _ _ _ (reads_off h hg hcs hn b off he))
 · obtain rfl : n = 0 := by omega
   exact ⟨h.1, fun h0 => absurd h0 (by omega)⟩
theorem IBox.c0 {w : World} {P : Nat} {A : Option Addr} {n c u : Nat} (h : IBox w P A n c u) : w.cell? ⟨P, 0, none⟩ = some (.bool false) := at_block h.cell 0 _ rfl
theorem IBox.lt {w : World} {P : Nat} {A : Option Addr} {n c u : Nat} (h : IBox w P A n c u) : P < w.heap.size := lt_of_block h.cell
theorem IBox.len {w : World} {P : Nat} {A : Option Addr} {n c u : Nat} (h : IBox w P A n c u) : n = (Fl.digL u).length := by have := h.rd.1; rw [u8s_len] at this; exact this.symm
theorem IBox.set {w : World} {P : Nat} {A : Option Addr} {n c u : Nat} (h : IBox w P A n c u) {G : Nat} {cs : Array Value} {t : TypeId} {fr : Nat × Nat} (hG : w.heap[G]? = some (.cells cs t fr)) (hn : NoByte cs) (hne : P ≠ G) (i : Nat) (v : Value) : IBox (w.setCell ⟨G, i, none⟩ v) P A n c u :=
 ⟨by rw [Below.heap_setCell _ _ _ _ hne]; exact h.cell, reads_set h.rd hG hn i v⟩
theorem ibox_put {w : World} {G : Nat} {b : Bool} {A A' : Option Addr} {n c u n' c' : Nat} (hG : w.heap[G]? = some (.cells #[.bool b, .slice A' n' c'] 33 (0, 0))) (hr : Reads w w.heap.size A n (u8s (Fl.digL u))) :
 IBox ((w.setCell ⟨G, 0, none⟩ (.bool false)).setCell ⟨G, 1, none⟩ (.slice A n c)) G A n c u := by
 have h0 := block_set hG 0 (.bool false)
 exact ⟨block_set h0 1 _, reads_set (reads_set hr hG (nb33 _ _ _ _) 0 _) h0 (nb33 _ _ _ _) 1 _⟩
theorem IBox.put {w : World} {P : Nat} {A : Option Addr} {n c u : Nat} (h : IBox w P A n c u) {G : Nat} {b : Bool} {A' : Option Addr} {n' c' : Nat} (hG : w.heap[G]? = some (.cells #[.bool b, .slice A' n' c'] 33 (0, 0))) (hne : P ≠ G) (v1 : Option Addr) (v2 v3 : Nat) :
 IBox ((w.setCell ⟨G, 0, none⟩ (.bool false)).setCell ⟨G, 1, none⟩ (.slice v1 v2 v3)) P A n c u :=
 (h.set hG (nb33 _ _ _ _) hne 0 _).set (block_set hG 0 (.bool false)) (nb33 _ _ _ _) hne 1 _
theorem box_put {w : World} {P G : Nat} {o : Obj} (h : w.heap[P]? = some o) (hne : P ≠ G) (v1 v2 : Value) : ((w.setCell ⟨G, 0, none⟩ v1).setCell ⟨G, 1, none⟩ v2).heap[P]? = some o := by
 rw [Below.heap_setCell _ _ _ _ hne, Below.heap_setCell _ _ _ _ hne]; exact h
theorem reads_put {w : World} {G : Nat} {b : Bool} {A' : Option Addr} {n' c' : Nat} {A : Option Addr} {n : Nat} {l : List Nat} (hr : Reads w w.heap.size A n (u8s l)) (hG : w.heap[G]? = some (.cells #[.bool b, .slice A' n' c'] 33 (0, 0))) (v1 : Option Addr) (v2 v3 : Nat) :
 Reads ((w.setCell ⟨G, 0, none⟩ (.bool false)).setCell ⟨G, 1, none⟩ (.slice v1 v2 v3)) ((w.setCell ⟨G, 0, none⟩ (.bool false)).setCell ⟨G, 1, none⟩ (.slice v1 v2 v3)).heap.size A n (u8s l) :=
 reads_set (reads_set hr hG (nb33 _ _ _ _) 0 _) (block_set hG 0 (.bool false)) (nb33 _ _ _ _) 1 _
theorem below_put {a w : World} {B G : Nat} (h : Below B a w) (hG : B ≤ G) (v1 v2 : Value) : Below B a ((w.setCell ⟨G, 0, none⟩ v1).setCell ⟨G, 1, none⟩ v2) := (h.setCell (p := ⟨G, 0, none⟩) hG _).setCell (p := ⟨G, 1, none⟩) hG _
theorem three_put {w : World} {G1 G2 G3 : Nat} {b1 b2 b3 : Bool} {A1 A2 A3 : Option Addr} {n1 c1 n2 c2 n3 c3 : Nat} (h1 : w.heap[G1]? = some (.cells #[.bool b1, .slice A1 n1 c1] 33 (0, 0))) (h2 : w.heap[G2]? = some (.cells #[.bool b2, .slice A2 n2 c2] 33 (0, 0))) (h3 : w.heap[G3]? = some (.cells #[.bool b3, .slice A3 n3 c3] 33 (0, 0)))
 (d12 : G1 < G2) (d23 : G2 < G3) {Q R D : Option Addr} {nq cq uq nr cr ur nd cd ud : Nat} (hq : Reads w w.heap.size Q nq (u8s (Fl.digL uq))) (hr : Reads w w.heap.size R nr (u8s (Fl.digL ur))) (hd : Reads w w.heap.size D nd (u8s (Fl.digL ud))) :
 ∃ wf, ((((((w.setCell ⟨G1, 0, none⟩ (.bool false)).setCell ⟨G1, 1, none⟩ (.slice Q nq cq)).setCell ⟨G2, 0, none⟩ (.bool false)).setCell ⟨G2, 1, none⟩ (.slice R nr cr)).setCell ⟨G3, 0, none⟩ (.bool false)).setCell ⟨G3, 1, none⟩ (.slice D nd cd)) = wf ∧
   IBox wf G1 Q nq cq uq ∧ IBox wf G2 R nr cr ur ∧ IBox wf G3 D nd cd ud ∧ (∀ P A n c u, P < G1 → IBox w P A n c u → IBox wf P A n c u) ∧ (∀ (P : Nat) (o : Obj), P < G1 → w.heap[P]? = some o → wf.heap[P]? = some o) ∧ (∀ B a, B ≤ G1 → Below B a w → Below B a wf) := by
 refine ⟨_, rfl, ?_, ?_, ?_, ?_, ?_, ?_⟩
 · have i1 := ibox_put (c := cq) h1 hq
   exact (i1.put (box_put h2 (by omega) _ _) (by omega) _ _ _).put (box_put (box_put h3 (by omega) _ _) (by omega) _ _) (by omega) _ _ _
 · have i2 := ibox_put (c := cr) (box_put h2 (by omega) (.bool false) (.slice Q nq cq)) (reads_put hr h1 Q nq cq)
   exact i2.put (box_put (box_put h3 (by omega) _ _) (by omega) _ _) (by omega) _ _ _
 · exact ibox_put (box_put (box_put h3 (by omega) _ _) (by omega) _ _) (reads_put (reads_put hd h1 Q nq cq) (box_put h2 (by omega) _ _) R nr cr)
 · intro P A n c u hP hi
   exact ((hi.put h1 (by omega) _ _ _).put (box_put h2 (by omega) _ _) (by omega) _ _ _).put (box_put (box_put h3 (by omega) _ _) (by omega) _ _) (by omega) _ _ _
 · intro P o hP hi
   exact box_put (box_put (box_put hi (by omega) _ _) (by omega) _ _) (by omega) _ _
 · intro B a hB hb
   exact below_put (below_put (below_put hb hB _ _) (by omega) _ _) (by omega) _ _
theorem two_box {w : World} {A B : Option Addr} {n c u m d v : Nat} (hr : Reads w w.heap.size A n (u8s (Fl.digL u))) (h2 : Reads w w.heap.size B m (u8s (Fl.digL v))) :
 ∃ wn, (w.alloc (.cells #[.bool false, .slice A n c] 33)).alloc (.cells #[.bool false, .slice B m d] 33) = wn ∧ IBox wn w.heap.size A n c u ∧ IBox wn (w.heap.size + 1) B m d v ∧ Below w.heap.size w wn := by
 have hb : Below w.heap.size w ((w.alloc (.cells #[.bool false, .slice A n c] 33)).alloc (.cells #[.bool false, .slice B m d] 33)) := ((Below.refl _ _).alloc (Nat.le_refl _) _).alloc (by simp) _
 exact ⟨_, rfl, ⟨alloc_kp (new_kp _ _ _ rfl), hr.on hb⟩, ⟨new_kp _ _ _ (by simp), h2.on hb⟩, hb⟩
theorem below_drew1 {a W : World} (h : Below a.drew.heap.size a.drew W) : Below a.heap.size a W := b_trans (Below.refl _ _).drew h
theorem pow2_few {k : Nat} (h : k ≤ 1400) : 2 ^ k < 10 ^ 2000 := by
 obtain ⟨T, hT⟩ : ∃ T, T = 2000 := ⟨_, rfl⟩
 obtain ⟨j, hj⟩ : ∃ j, j = 467 := ⟨_, rfl⟩
 rw [← hT]
 exact Nat.lt_of_le_of_lt (Fl.two_le_ten (j := j) (by omega)) (Nat.pow_lt_pow_right (by decide) (by omega))
structure ShB (w : World) (X : Nat) (A : Option Addr) (n c u : Nat) (B : Option Addr) (m d v : Nat) (wx : World) : Prop where
 ia : IBox wx X A n c u
 ib : IBox wx (X + 1) B m d v
 b6 : wx.heap[X + 2]? = some (.cells #[.bool false, .slice none 0 0] 33 (0, 0))
 b7 : wx.heap[X + 3]? = some (.cells #[.bool false, .slice none 0 0] 33 (0, 0))
 b8 : wx.heap[X + 4]? = some (.cells #[.bool false, .slice none 0 0] 33 (0, 0))
 bel : Below X w wx
theorem ShB.size {w wx : World} {X n c u m d v : Nat} {A B : Option Addr} (h : ShB w X A n c u B m d v wx) : X + 5 ≤ wx.heap.size := by
 have := lt_of_block h.b8
 omega
theorem ShB.on {w wx wy : World} {X n c u m d v : Nat} {A B : Option Addr} (h : ShB w X A n c u B m d v wx) (hb : Below wx.heap.size wx wy) : ShB w X A n c u B m d v wy := by
 have hs := h.size
 obtain ⟨h1, h2, h3, h4, h5, h6⟩ := h
 exact ⟨h1.on hb, h2.on hb, (hb.block _ (by omega)).trans h3, (hb.block _ (by omega)).trans h4, (hb.block _ (by omega)).trans h5, h6.trans (hb.mono (by omega))⟩
theorem ShB.setA {w wx : World} {X n c u m d v : Nat} {A B : Option Addr} (h : ShB w X A n c u B m d v wx) {A' : Option Addr} {n' c' u' : Nat} (hr : Reads wx wx.heap.size A' n' (u8s (Fl.digL u'))) : ShB w X A' n' c' u' B m d v ((wx.setCell ⟨X, 0, none⟩ (.bool false)).setCell ⟨X, 1, none⟩ (.slice A' n' c')) := by
 obtain ⟨h1, h2, h3, h4, h5, h6⟩ := h
 exact ⟨ibox_put h1.cell hr, h2.put h1.cell (by omega) _ _ _, box_put h3 (by omega) _ _, box_put h4 (by omega) _ _, box_put h5 (by omega) _ _, below_put h6 (Nat.le_refl _) _ _⟩
theorem ShB.setB {w wx : World} {X n c u m d v : Nat} {A B : Option Addr} (h : ShB w X A n c u B m d v wx) {B' : Option Addr} {m' d' v' : Nat} (hr : Reads wx wx.heap.size B' m' (u8s (Fl.digL v'))) : ShB w X A n c u B' m' d' v' ((wx.setCell ⟨X + 1, 0, none⟩ (.bool false)).setCell ⟨X + 1, 1, none⟩ (.slice B' m' d')) := by
 obtain ⟨h1, h2, h3, h4, h5, h6⟩ := h
 exact ⟨h1.put h2.cell (by omega) _ _ _, ibox_put h2.cell hr, box_put h3 (by omega) _ _, box_put h4 (by omega) _ _, box_put h5 (by omega) _ _, below_put h6 (by omega) _ _⟩
theorem ShB.begin {w : World} (A : Option Addr) (n c u : Nat) (B : Option Addr) (m d v : Nat) (hr : Reads w w.heap.size A n (u8s (Fl.digL u))) (h2 : Reads w w.heap.size B m (u8s (Fl.digL v))) :
 ∃ w2, ((((w.alloc (.cells #[.bool false, .slice A n c] 33)).alloc (.cells #[.bool false, .slice B m d] 33)).alloc (.cells #[.bool false, .slice none 0 0] 33)).alloc (.cells #[.bool false, .slice none 0 0] 33)).alloc (.cells #[.bool false, .slice none 0 0] 33) = w2 ∧ ShB w w.heap.size A n c u B m d v w2 := by
 have hb : Below w.heap.size w (((((w.alloc (.cells #[.bool false, .slice A n c] 33)).alloc (.cells #[.bool false, .slice B m d] 33)).alloc (.cells #[.bool false, .slice none 0 0] 33)).alloc (.cells #[.bool false, .slice none 0 0] 33)).alloc (.cells #[.bool false, .slice none 0 0] 33)) :=
  (((((Below.refl _ _).alloc (Nat.le_refl _) _).alloc (by simp) _).alloc (by simp <;> omega) _).alloc (by simp <;> omega) _).alloc (by simp <;> omega) _
 refine ⟨_, rfl, ⟨?_, hr.on hb⟩, ⟨?_, h2.on hb⟩, ?_, ?_, ?_, hb⟩
 · exact alloc_kp (alloc_kp (alloc_kp (alloc_kp (new_kp _ _ _ rfl))))
 · exact alloc_kp (alloc_kp (alloc_kp (new_kp _ _ _ (by simp))))
 · exact alloc_kp (alloc_kp (new_kp _ _ _ (by simp)))
 · exact alloc_kp (new_kp _ _ _ (by simp))
 · exact new_kp _ _ _ (by simp)
theorem shifted_any (A B : Option Addr) (n m c d u v : Nat) (k : Int) (hk : -1400 ≤ k) (hk2 : k ≤ 1400) (_hu : 0 < u) (hv : 0 < v) (hN : Fl.shN u k < 10 ^ 2000) (hD : Fl.shD v k < 10 ^ 2000) (w : World) (hr : Reads w w.heap.size A n (u8s (Fl.digL u))) (h2 : Reads w w.heap.size B m (u8s (Fl.digL v))) :
 Calls Tryz.prog 87 #[.agg #[.bool false, .slice A n c], .agg #[.bool false, .slice B m d], .int .i64 k] w fun x w' => (∃ Q mq cq R mr cr D md cd, Reads w' w'.heap.size Q mq (u8s (Fl.digL (Fl.shN u k / Fl.shD v k))) ∧ Reads w' w'.heap.size R mr (u8s (Fl.digL (Fl.shN u k % Fl.shD v k))) ∧ Reads w' w'.heap.size D md (u8s (Fl.digL (Fl.shD v k))) ∧
  x = .returned (.tuple #[.agg #[.bool false, .slice Q mq cq], .agg #[.bool false, .slice R mr cr], .agg #[.bool false, .slice D md cd]])) ∧ Below w.heap.size w w' := by
 have hDp := Fl.shD_pos hv k
 obtain ⟨N, eN⟩ : ∃ N, Fl.shN u k = N := ⟨_, rfl⟩
 obtain ⟨V, eD⟩ : ∃ V, Fl.shD v k = V := ⟨_, rfl⟩
 rw [eN] at hN
 rw [eD] at hD hDp
 rw [eN, eD]
 obtain ⟨w2, hw2, B2⟩ := ShB.begin A n c u B m d v hr h2
 obtain ⟨X, hX⟩ : ∃ X, w.heap.size = X := ⟨_, rfl⟩
 rw [hX] at B2
 obtain ⟨KN, hKN⟩ : ∃ KN : Nat, KN = k.natAbs := ⟨_, rfl⟩
 have PW0 := fun W => power_any 2 KN W (by decide) (by decide) (by omega) (pow2_few (by omega))
 have hPP := few (Nat.le_refl (2 ^ KN)) (pow2_few (by omega))
 obtain ⟨P, hP⟩ : ∃ P, 2 ^ KN = P := ⟨_, rfl⟩
 have hun : n ≤ 2000 := by
  have h := hr.1
  rw [u8s_len] at h
  have : u ≤ N := by
   rw [← eN]; unfold Fl.shN
   split
   · exact Nat.le_refl _
   · exact Nat.le_mul_of_pos_right _ (Nat.two_pow_pos _)
  have := few this hN
  omega
 have hvm : m ≤ 2000 := by
  have h := h2.1
  rw [u8s_len] at h
  have : v ≤ V := by
   rw [← eD]; unfold Fl.shD
   split
   · exact Nat.le_mul_of_pos_right _ (Nat.two_pow_pos _)
   · exact Nat.le_refl _
  have := few this hD
  omega
 rw [hP] at PW0 hPP
 have PW := Lib.hid (show ∀ W, Calls Tryz.prog 53 #[.int .u64 2, .int .i64 (KN : Int)] W _ from PW0)
 clear PW0
 have HE := Lib.hid (show (0 < k → u = N ∧ v * P = V) ∧ (¬ 0 < k → u * P = N ∧ v = V) from by
  rw [← eN, ← eD, ← hP, hKN]
  unfold Fl.shN Fl.shD
  constructor
  · intro h
    rw [if_pos h, if_pos h, show k.natAbs = k.toNat by omega]
    exact ⟨rfl, rfl⟩
  · intro h
    rw [if_neg h, if_neg h, show k.natAbs = (-k).toNat by omega]
    exact ⟨rfl, rfl⟩)
 have HN := Lib.hid (And.intro hN (And.intro hD (And.intro hDp (And.intro hun (And.intro hvm hPP)))))
 have HB := Lib.hid B2
 have HW := Lib.hid (And.intro hw2 hX)
 have hK0 : 0 < k → k = (KN : Int) := fun h => by omega
 have hK1 : ¬ 0 < k → -k = (KN : Int) := fun h => by omega
 have hKb : KN ≤ 1400 := by omega
 clear eN eD hN hD hDp hun hvm hPP B2 hw2 hX hP hKN hr h2 _hu hv
 go_enter Tryz.func87, Tryz.ntmps87
 go_upto_if 12 with fail
 rw [HW.out.1, HW.out.2]
 go_cut [] (fun wx => ∃ A' n' c' B' m' d', ShB w X A' n' c' N B' m' d' V wx)
 case first =>
  by_cases h0 : 0 < k
  · obtain rfl := hK0 h0
    have c1 : decide ((0 : Int) < (KN : Int)) = true := decide_eq_true h0
    have c2 : decide (0 < KN) = true := decide_eq_true (by omega)
    have HE1 := Lib.hid (HE.out.1 h0)
    clear hK0 hK1 h0 hk hk2 hKb
    have z0 := HB.out.ib.c0
    have z1 := HB.out.ib.c1
    rw [c1]
    go_upto_region 2 with fail
    go_region_with (first
     | (go_at_call 53; refine (PW.out _).mono ?_; rintro y w5 ⟨⟨A5, m5, c5, hc5, ha5, hr5, rfl⟩, hb5⟩; have hb5' : Below w2.heap.size w2 w5 := (by first | exact hb5 | exact below_drew1 hb5); have B5 := HB.out.on hb5'; have q0 := B5.ib.c0; have q1 := B5.ib.c1; have hl5 : m5 ≤ 2000 := Nat.le_trans (Nat.le_of_eq (hr5.1.symm.trans (u8s_len _))) HN.out.2.2.2.2.2)
     | (go_at_call 52; refine (mul_ri B A5 m m5 d c5 v P _ (by first | exact B5.ib.rd | exact B5.ib.rd.drew) (by first | exact hr5 | exact hr5.drew) HN.out.2.2.2.2.1 hl5).mono ?_; rintro y w6 ⟨⟨A6, m6, c6, hc6, ha6, hr6, rfl⟩, hb6⟩; have hb6' : Below w5.heap.size w5 w6 := (by first | exact hb6 | exact below_drew1 hb6); have B6 := B5.on hb6'; have r0 := B6.ib.c0; have r1 := B6.ib.c1; have s0 := free_block B6.ib.cell 0; have s1 := free_block B6.ib.cell 1))
    all_goals
     go_wp2_with fail
     go_meet
     obtain ⟨e1, e2⟩ := HE1.out
     have B7 := B6.setB (d' := c6) hr6
     rw [e1, e2] at B7
     exact ⟨_, _, _, _, _, _, by first | exact B7 | exact B7.drew⟩
  · have e9 := hK1 h0
    have e8 : IntKind.i64.wrap (-k) = (KN : Int) := by rw [e9]; exact IntWalk.i64_in _ (by omega)
    have c1 : decide ((0 : Int) < k) = false := decide_eq_false h0
    have HE1 := Lib.hid (HE.out.2 h0)
    clear hK0 hK1 h0 hk hk2 hKb e9
    have z0 := HB.out.ia.c0
    have z1 := HB.out.ia.c1
    rw [c1]
    go_upto_region 3 with fail
    go_region_with (first
     | (go_at_call 53; refine (PW.out _).mono ?_; rintro y w5 ⟨⟨A5, m5, c5, hc5, ha5, hr5, rfl⟩, hb5⟩; have hb5' : Below w2.heap.size w2 w5 := (by first | exact hb5 | exact below_drew1 hb5); have B5 := HB.out.on hb5'; have q0 := B5.ia.c0; have q1 := B5.ia.c1; have hl5 : m5 ≤ 2000 := Nat.le_trans (Nat.le_of_eq (hr5.1.symm.trans (u8s_len _))) HN.out.2.2.2.2.2)
     | (go_at_call 52; refine (mul_ri A A5 n m5 c c5 u P _ (by first | exact B5.ia.rd | exact B5.ia.rd.drew) (by first | exact hr5 | exact hr5.drew) HN.out.2.2.2.1 hl5).mono ?_; rintro y w6 ⟨⟨A6, m6, c6, hc6, ha6, hr6, rfl⟩, hb6⟩; have hb6' : Below w5.heap.size w5 w6 := (by first | exact hb6 | exact below_drew1 hb6); have B6 := B5.on hb6'; have r0 := B6.ia.c0; have r1 := B6.ia.c1; have s0 := free_block B6.ia.cell 0; have s1 := free_block B6.ia.cell 1))
    all_goals
     go_wp2_with fail
     go_meet
     obtain ⟨e1, e2⟩ := HE1.out
     have B7 := B6.setA (c' := c6) hr6
     rw [e1, e2] at B7
     exact ⟨_, _, _, _, _, _, by first | exact B7 | exact B7.drew⟩
 case rest =>
  obtain ⟨A1, n1, c1, B1, m1, d1, B3⟩ := hcut
  obtain ⟨wb, hwb⟩ : ∃ W, W = wc := ⟨_, rfl⟩
  subst hwb
  have hlN : n1 ≤ 2000 := by rw [B3.ia.len]; exact few (Nat.le_refl N) HN.out.1
  have hlV : m1 ≤ 2000 := by rw [B3.ib.len]; exact few (Nat.le_refl V) HN.out.2.1
  have DV := divmod_any A1 B1 n1 m1 c1 d1 (Fl.digL N) (Fl.digL V) wb B3.ia.rd (by omega) (digL_le9 N) B3.ib.rd (by omega) (digL_le9 V) (digL_noLead V) (by rw [dv_digL]; exact HN.out.2.2.1)
  rw [dv_digL, dv_digL] at DV
  have DV := Lib.hid DV
  have p0 := B3.ia.c0
  have p1 := B3.ia.c1
  have r0 := B3.ib.c0
  have r1 := B3.ib.c1
  have H3 := Lib.hid B3
  clear hlN hlV B3
  go_wp2_with fail
  refine (DV.out).mono ?_
  rintro x w5 ⟨⟨Q, mq, cq, R, mr, cr, hmq, hkr, haQ, haR, hrq, hrr, rfl⟩, hb5⟩
  have B5 := H3.out.on hb5
  go_upto_region 5 with fail
  obtain ⟨w6, hw6, i9, i10, hb6⟩ := two_box (c := cq) (d := cr) hrq hrr
  have B6 := B5.on hb6
  have hlt := B5.size
  rw [hw6, show X + 1 + 1 + 1 + 1 = X + 4 from rfl, show X + 1 + 1 + 1 = X + 3 from rfl, show X + 1 + 1 = X + 2 from rfl]
  obtain ⟨Y, hY⟩ : ∃ Y, w5.heap.size = Y := ⟨_, rfl⟩
  rw [hY] at i9 i10 hlt ⊢
  obtain ⟨Y1, hY1⟩ : ∃ Y1, Y + 1 = Y1 := ⟨_, rfl⟩
  obtain ⟨X1, hX1⟩ : ∃ X1, X + 1 = X1 := ⟨_, rfl⟩
  obtain ⟨X2, hX2⟩ : ∃ X2, X + 2 = X2 := ⟨_, rfl⟩
  obtain ⟨X3, hX3⟩ : ∃ X3, X + 3 = X3 := ⟨_, rfl⟩
  obtain ⟨X4, hX4⟩ : ∃ X4, X + 4 = X4 := ⟨_, rfl⟩
  have ib := B6.ib
  have b6 := B6.b6
  have b7 := B6.b7
  have b8 := B6.b8
  rw [hX1] at ib
  rw [hX2] at b6
  rw [hX3] at b7
  rw [hX4] at b8
  rw [hY1] at i10
  rw [hY1, hX1, hX2, hX3, hX4]
  obtain ⟨wf, hwf, k1, k2, k3, k4, k5, k6⟩ := three_put b6 b7 b8 (by omega) (by omega) (cq := cq) (cr := cr) (cd := d1) i9.rd i10.rd ib.rd
  have HF := Lib.hid (And.intro hwf (And.intro k1.rd (And.intro k2.rd (And.intro k3.rd (k6 X w (by omega) B6.bel)))))
  have y0 := i9.c0
  have y1 := i9.c1
  have y2 := i10.c0
  have y3 := i10.c1
  clear p0 p1 r0 r1
  have r0 := ib.c0
  have r1 := ib.c1
  have g0 := at_block b6 0 _ rfl
  have g1 := at_block b6 1 _ rfl
  have g2 := at_block b7 0 _ rfl
  have g3 := at_block b7 1 _ rfl
  have g4 := at_block b8 0 _ rfl
  have g5 := at_block b8 1 _ rfl
  have f0 := free_block b6 0
  have f1 := free_block b6 1
  have f2 := free_block b7 0
  have f3 := free_block b7 1
  have f4 := free_block b8 0
  have f5 := free_block b8 1
  have n1 : ¬ Y = X2 := by omega
  have n2 : ¬ Y = X3 := by omega
  have n3 : ¬ Y = X4 := by omega
  have n4 : ¬ Y1 = X2 := by omega
  have n5 : ¬ Y1 = X3 := by omega
  have n6 : ¬ Y1 = X4 := by omega
  have n7 : ¬ X1 = X2 := by omega
  have n8 : ¬ X1 = X3 := by omega
  have n9 : ¬ X1 = X4 := by omega
  have t1 : ¬ X3 = X2 := by omega
  have t2 : ¬ X4 = X2 := by omega
  have t3 : ¬ X4 = X3 := by omega
  clear B5 B6 i9 i10 hb5 hb6 hrq hrr haQ haR hmq hkr hwf k1 k2 k3 k4 k5 k6 hw6 hY hY1 hX1 hX2 hX3 hX4 ib b6 b7 b8 hlt
  go_region_with (fail)
  all_goals
   go_wp2_with fail
   refine bodyPost_ret (v := .tuple #[.agg #[.bool false, .slice Q mq cq], .agg #[.bool false, .slice R mr cr], .agg #[.bool false, .slice B1 m1 d1]]) (by simp [results, Tryz.results87, go_sem, g0, g1, g2, g3, g4, g5]) rfl ?_
   rw [HW.out.2, HF.out.1]
   obtain ⟨_, h2, h3, h4, h5⟩ := HF.out
   exact ⟨⟨Q, mq, cq, R, mr, cr, B1, m1, d1, h2.drew, h3.drew, h4.drew, rfl⟩, h5.drew⟩
structure NeA (w : World) (X F : Nat) (g : Bool) (S : ByteArray) (E : Int) (wx : World) : Prop where
 bd : wx.heap[X]? = some (.cells #[.bool g, .string S, .int .i64 E] 37 (0, 0))
 bf : wx.heap[F]? = some (.cells #[.int .i64 0, .bool false, .int .u64 0, .int .i64 0] 24 (0, 0))
 xf : X < F
 bel : Below X w wx
def IB (wx : World) (P u : Nat) : Prop := ∃ A n c, IBox wx P A n c u
theorem IB.on {wx wy : World} {P u : Nat} (h : IB wx P u) (hb : Below wx.heap.size wx wy) : IB wy P u := by
 obtain ⟨A, n, c, h⟩ := h
 exact ⟨A, n, c, h.on hb⟩
theorem IB.lt {wx : World} {P u : Nat} (h : IB wx P u) : P < wx.heap.size := by
 obtain ⟨A, n, c, h⟩ := h
 exact h.lt
structure NeC (w : World) (X F P4 P5 P6 P7 P9 P10 P11 : Nat) (g : Bool) (S : ByteArray) (E : Int) (u v : Nat) (k : Int) (wx : World) : Prop where
 a : NeA w X F g S E wx
 i4 : IB wx P4 u
 i5 : IB wx P5 v
 i6 : IB wx P6 9007199254740992
 i7 : IB wx P7 4503599627370496
 i9 : IB wx P9 (Fl.shN u k / Fl.shD v k)
 i10 : IB wx P10 (Fl.shN u k % Fl.shD v k)
 i11 : IB wx P11 (Fl.shD v k)
 o4 : F < P4
 o5 : P4 < P5
 o6 : P5 < P6
 o7 : P6 < P7
 o9 : P7 < P9
 o10 : P9 < P10
 o11 : P10 < P11
theorem NeA.on {w wx wy : World} {X F : Nat} {g : Bool} {S : ByteArray} {E : Int} (h : NeA w X F g S E wx) (hb : Below wx.heap.size wx wy) : NeA w X F g S E wy := by
 obtain ⟨h1, h2, h3, h4⟩ := h
 have := lt_of_block h2
 exact ⟨(hb.block _ (by omega)).trans h1, (hb.block _ (by omega)).trans h2, h3, h4.trans (hb.mono (by omega))⟩
theorem NeC.on {w wx wy : World} {X F P4 P5 P6 P7 P9 P10 P11 : Nat} {g : Bool} {S : ByteArray} {E : Int} {u v : Nat} {k : Int} (h : NeC w X F P4 P5 P6 P7 P9 P10 P11 g S E u v k wx) (hb : Below wx.heap.size wx wy) : NeC w X F P4 P5 P6 P7 P9 P10 P11 g S E u v k wy := by
 obtain ⟨h1, h2, h3, h4, h5, h6, h7, h8, o⟩ := h
 exact ⟨h1.on hb, h2.on hb, h3.on hb, h4.on hb, h5.on hb, h6.on hb, h7.on hb, h8.on hb, by assumption, by assumption, by assumption, by assumption, by assumption, by assumption, by assumption⟩
theorem NeC.put {w wx : World} {X F P4 P5 P6 P7 P9 P10 P11 : Nat} {g : Bool} {S : ByteArray} {E : Int} {u v : Nat} {k : Int} (h : NeC w X F P4 P5 P6 P7 P9 P10 P11 g S E u v k wx) {k' : Int} {Q R D : Option Addr} {nq cq nr cr nd cd : Nat}
 (hq : Reads wx wx.heap.size Q nq (u8s (Fl.digL (Fl.shN u k' / Fl.shD v k')))) (hr : Reads wx wx.heap.size R nr (u8s (Fl.digL (Fl.shN u k' % Fl.shD v k')))) (hd : Reads wx wx.heap.size D nd (u8s (Fl.digL (Fl.shD v k')))) :
 NeC w X F P4 P5 P6 P7 P9 P10 P11 g S E u v k' ((((((wx.setCell ⟨P9, 0, none⟩ (.bool false)).setCell ⟨P9, 1, none⟩ (.slice Q nq cq)).setCell ⟨P10, 0, none⟩ (.bool false)).setCell ⟨P10, 1, none⟩ (.slice R nr cr)).setCell ⟨P11, 0, none⟩ (.bool false)).setCell ⟨P11, 1, none⟩ (.slice D nd cd)) := by
 obtain ⟨⟨h1, h2, h3, h4⟩, i4, i5, i6, i7, ⟨A9, n9, c9, i9⟩, ⟨A10, n10, c10, i10⟩, ⟨A11, n11, c11, i11⟩, o4, o5, o6, o7, o9, o10, o11⟩ := h
 obtain ⟨wf, rfl, k1, k2, k3, k4, k5, k6⟩ := three_put i9.cell i10.cell i11.cell o10 o11 (cq := cq) (cr := cr) (cd := cd) hq hr hd
 have kp : ∀ P u, P < P9 → IB wx P u → IB _ P u := fun P u hP ⟨A, n, c, hi⟩ => ⟨A, n, c, k4 P A n c u hP hi⟩
 exact ⟨⟨k5 _ _ (by omega) h1, k5 _ _ (by omega) h2, h3, k6 _ _ (by omega) h4⟩, kp _ _ (by omega) i4, kp _ _ (by omega) i5, kp _ _ (by omega) i6, kp _ _ (by omega) i7, ⟨_, _, _, k1⟩, ⟨_, _, _, k2⟩, ⟨_, _, _, k3⟩, o4, o5, o6, o7, o9, o10, o11⟩
structure NeB (w : World) (X F P4 P5 : Nat) (g : Bool) (S : ByteArray) (E : Int) (u v : Nat) (wx : World) : Prop where
 a : NeA w X F g S E wx
 i4 : IB wx P4 u
 i5 : IB wx P5 v
 o4 : F < P4
 o5 : P4 < P5
theorem NeB.on {w wx wy : World} {X F P4 P5 : Nat} {g : Bool} {S : ByteArray} {E : Int} {u v : Nat} (h : NeB w X F P4 P5 g S E u v wx) (hb : Below wx.heap.size wx wy) : NeB w X F P4 P5 g S E u v wy := by
 obtain ⟨h1, h2, h3, h4, h5⟩ := h
 exact ⟨h1.on hb, h2.on hb, h3.on hb, h4, h5⟩
theorem NeA.put {w wx : World} {X F P : Nat} {g : Bool} {S : ByteArray} {E : Int} (h : NeA w X F g S E wx) (hP : F < P) (v0 v1 : Value) : NeA w X F g S E ((wx.setCell ⟨P, 0, none⟩ v0).setCell ⟨P, 1, none⟩ v1) := by
 obtain ⟨h1, h2, h3, h4⟩ := h
 exact ⟨box_put h1 (by omega) _ _, box_put h2 (by omega) _ _, h3, below_put h4 (by omega) _ _⟩
theorem NeB.set4 {w wx : World} {X F P4 P5 : Nat} {g : Bool} {S : ByteArray} {E : Int} {u v : Nat} (h : NeB w X F P4 P5 g S E u v wx) {A : Option Addr} {n c u' : Nat} (hr : Reads wx wx.heap.size A n (u8s (Fl.digL u'))) :
 NeB w X F P4 P5 g S E u' v ((wx.setCell ⟨P4, 0, none⟩ (.bool false)).setCell ⟨P4, 1, none⟩ (.slice A n c)) := by
 obtain ⟨h1, ⟨A4, n4, c4, i4⟩, ⟨A5, n5, c5, i5⟩, h4, h5⟩ := h
 exact ⟨h1.put h4 _ _, ⟨_, _, _, ibox_put i4.cell hr⟩, ⟨_, _, _, i5.put i4.cell (by omega) _ _ _⟩, h4, h5⟩
theorem NeB.set5 {w wx : World} {X F P4 P5 : Nat} {g : Bool} {S : ByteArray} {E : Int} {u v : Nat} (h : NeB w X F P4 P5 g S E u v wx) {A : Option Addr} {n c v' : Nat} (hr : Reads wx wx.heap.size A n (u8s (Fl.digL v'))) :
 NeB w X F P4 P5 g S E u v' ((wx.setCell ⟨P5, 0, none⟩ (.bool false)).setCell ⟨P5, 1, none⟩ (.slice A n c)) := by
 obtain ⟨h1, ⟨A4, n4, c4, i4⟩, ⟨A5, n5, c5, i5⟩, h4, h5⟩ := h
 exact ⟨h1.put (by omega) _ _, ⟨_, _, _, i4.put i5.cell (by omega) _ _ _⟩, ⟨_, _, _, ibox_put i5.cell hr⟩, h4, h5⟩
theorem two_ib {w : World} {A B : Option Addr} {n c u m d v : Nat} (hr : Reads w w.heap.size A n (u8s (Fl.digL u))) (h2 : Reads w w.heap.size B m (u8s (Fl.digL v))) :
 ∃ wn, (w.alloc (.cells #[.bool false, .slice A n c] 33)).alloc (.cells #[.bool false, .slice B m d] 33) = wn ∧ IB wn w.heap.size u ∧ IB wn (w.heap.size + 1) v ∧ Below w.heap.size w wn := by
 have hb : Below w.heap.size w ((w.alloc (.cells #[.bool false, .slice A n c] 33)).alloc (.cells #[.bool false, .slice B m d] 33)) := ((Below.refl _ _).alloc (Nat.le_refl _) _).alloc (by simp) _
 exact ⟨_, rfl, ⟨_, _, _, alloc_kp (new_kp _ _ _ rfl), hr.on hb⟩, ⟨_, _, _, new_kp _ _ _ (by simp), h2.on hb⟩, hb⟩
theorem three_ib {w : World} {A B D : Option Addr} {n c u m d v k e x : Nat} (hr : Reads w w.heap.size A n (u8s (Fl.digL u))) (h2 : Reads w w.heap.size B m (u8s (Fl.digL v))) (h3 : Reads w w.heap.size D k (u8s (Fl.digL x))) :
 ∃ wn, ((w.alloc (.cells #[.bool false, .slice A n c] 33)).alloc (.cells #[.bool false, .slice B m d] 33)).alloc (.cells #[.bool false, .slice D k e] 33) = wn ∧ IB wn w.heap.size u ∧ IB wn (w.heap.size + 1) v ∧ IB wn (w.heap.size + 1 + 1) x ∧ Below w.heap.size w wn := by
 have hb : Below w.heap.size w (((w.alloc (.cells #[.bool false, .slice A n c] 33)).alloc (.cells #[.bool false, .slice B m d] 33)).alloc (.cells #[.bool false, .slice D k e] 33)) := (((Below.refl _ _).alloc (Nat.le_refl _) _).alloc (by simp) _).alloc (by simp <;> omega) _
 exact ⟨_, rfl, ⟨_, _, _, alloc_kp (alloc_kp (new_kp _ _ _ rfl)), hr.on hb⟩, ⟨_, _, _, alloc_kp (new_kp _ _ _ (by simp)), h2.on hb⟩, ⟨_, _, _, new_kp _ _ _ (by simp), h3.on hb⟩, hb⟩
def NeRes (g : Bool) (a b K : Nat) (x : Ending) : Prop :=
 x = .returned (.tuple #[Fl.refF (Ieee.double.word g (min (K * 4503599627370496 + Fl.rndQ a b) 9218868437227405312)), .bool (decide (K * 4503599627370496 + Fl.rndQ a b < 9218868437227405312 ∧ a % b = 0))])
def NeEnd (g : Bool) (a b K X : Nat) (w : World) (x : Ending) (w' : World) : Prop := NeRes g a b K x ∧ Below X w w'
theorem refW_zero (g : Bool) : Fl.refF (Ieee.double.word g 0) = .agg #[.int .i64 0, .bool g, .int .u64 0, .int .i64 0] := by
 obtain ⟨a1, a2, a3⟩ := Fl.word_mod g (r := 0) (by decide)
 unfold Fl.refF
 rw [a1, a3, if_neg (by decide), if_neg (by decide), if_pos rfl]
theorem refW_inf (g : Bool) : Fl.refF (Ieee.double.word g 9218868437227405312) = .agg #[.int .i64 1, .bool g, .int .u64 0, .int .i64 0] := by
 obtain ⟨a1, a2, a3⟩ := Fl.word_mod g (r := 9218868437227405312) (by decide)
 unfold Fl.refF
 rw [a1, a3, if_neg (by decide), if_pos rfl]
theorem refW_fin (g : Bool) {r : Nat} (h0 : 0 < r) (hr : r < 9218868437227405312) : Fl.refF (Ieee.double.word g r) = .agg #[.int .i64 0, .bool g, .int .u64 (Fl.om r : Int), .int .i64 (Fl.oe r)] := by
 obtain ⟨a1, a2, a3⟩ := Fl.word_mod g (r := r) (by omega)
 unfold Fl.refF
 rw [a1, a3, if_neg (by omega), if_neg (by omega), if_neg (by omega)]
theorem NeRes.zero {g : Bool} {a b K : Nat} (hm : Fl.rndQ a b = 0) (hK : K = 0) (ha : 0 < a) : NeRes g a b K (.returned (.tuple #[.agg #[.int .i64 0, .bool g, .int .u64 0, .int .i64 0], .bool false])) := by
 have hr : a % b ≠ 0 := fun h => by
  have h1 := (Fl.rnd_bounds (a := a) (b := b)).1
  have h2 := Nat.div_add_mod a b
  rw [hm] at h1
  rw [h, Nat.le_zero.1 h1, Nat.mul_zero] at h2
  omega
 unfold NeRes
 rw [hm, hK, decide_eq_false (fun h => hr h.2)]
 rw [show min (0 * 4503599627370496 + 0) 9218868437227405312 = 0 from rfl, refW_zero]
theorem NeRes.inf {g : Bool} {a b K : Nat} (h : ¬ K * 4503599627370496 + Fl.rndQ a b < 9218868437227405312) : NeRes g a b K (.returned (.tuple #[.agg #[.int .i64 1, .bool g, .int .u64 0, .int .i64 0], .bool false])) := by
 unfold NeRes
 rw [decide_eq_false (fun h' => h h'.1), Nat.min_eq_right (by omega), refW_inf]
theorem NeRes.fin {g : Bool} {a b K c z : Nat} {e : Int} (h0 : 0 < Fl.rndQ a b) (h : K * 4503599627370496 + Fl.rndQ a b < 9218868437227405312) (h1 : Fl.om (K * 4503599627370496 + Fl.rndQ a b) = c) (h2 : Fl.oe (K * 4503599627370496 + Fl.rndQ a b) = e + (z : Nat)) {n : Nat} (hn : n = (Fl.digL (a % b)).length) :
 NeRes g a b K (.returned (.tuple #[.agg #[.int .i64 0, .bool g, .int .u64 (c : Int), .int .i64 (e + (z : Int))], .bool ((n : Int) == 0)])) := by
 have e1 : decide (K * 4503599627370496 + Fl.rndQ a b < 9218868437227405312 ∧ a % b = 0) = ((n : Int) == 0) := by
  by_cases hz : a % b = 0
  · rw [hz, Fl.digL_zero] at hn
    rw [decide_eq_true ⟨h, hz⟩, hn]
    rfl
  · rw [decide_eq_false (fun h' => hz h'.2)]
    symm
    rw [beq_eq_false_iff_ne]
    have := (Fl.digL_facts hz).1
    omega
 unfold NeRes
 rw [Nat.min_eq_left (by omega), refW_fin g (by omega) h, h1, h2, e1]
theorem ne_odd {M : Nat} (h0 : 0 < M) (h : M < 18446744073709551616) : ∃ c z : Nat, c % 2 = 1 ∧ z < 64 ∧ M = c * 2 ^ z := by
 obtain ⟨k, h1, h2⟩ := tz_spec h0 h
 exact ⟨2 * k + 1, tzN M, by omega, h2, by rw [Nat.mul_comm]; exact h1⟩
theorem below_four {a w : World} {X F : Nat} (h : Below X a w) (hF : X ≤ F) (v0 v1 v2 v3 : Value) : Below X a ((((w.setCell ⟨F, 0, none⟩ v0).setCell ⟨F, 1, none⟩ v1).setCell ⟨F, 2, none⟩ v2).setCell ⟨F, 3, none⟩ v3) :=
 (((h.setCell (p := ⟨F, 0, none⟩) hF _).setCell (p := ⟨F, 1, none⟩) hF _).setCell (p := ⟨F, 2, none⟩) hF _).setCell (p := ⟨F, 3, none⟩) hF _
noncomputable def suf42e : Code := fromC 25 (Tryz.f42.body.getD .skip)
noncomputable def suf42d : Code := fromC 20 (Tryz.f42.body.getD .skip)
noncomputable def suf42c : Code := fromB 2 (Tryz.f42.body.getD .skip)
noncomputable def suf42b : Code := fromB 0 (Tryz.f42.body.getD .skip)
noncomputable def suf42a : Code := fromC 7 (Tryz.f42.body.getD .skip)
end Go.Proofs.YtjapgpmoojfhnaaGreatDoor
