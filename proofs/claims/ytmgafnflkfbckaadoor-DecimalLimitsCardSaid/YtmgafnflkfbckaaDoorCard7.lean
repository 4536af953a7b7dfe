/- DecimalLimits: the law's walk. DecimalLimits: for every input the law returns true, its arguments read behind the call as before it (the row; the card ties the five variables of the library that it lists).
  No condition. The row lists five variables of the library as their initialisers lay them. -/
import Derived.Test.YtmgafnflkfbckaaDoorWalkAI
import Derived.Test.YtmgafnflkfbckaaDoorWalkAL
import Derived.Test.YtmgafnflkfbckaaDoorWalkAM
import Derived.Test.YtmgafnflkfbckaaDoorWalkAQ
import Derived.Test.YtmgafnflkfbckaaDoorPlain11
import Derived.Test.YtmgafnflkfbckaaDoorRow
namespace Go.Proofs.YtmgafnflkfbckaaDoor
open Go.RowKit Go.Lib

theorem i16_range {o : Int} (h : (Lit.int .i16 o).wf = true) : -32768 ≤ o ∧ o ≤ 32767 := by
  have h2 : IntKind.i16.min ≤ o ∧ o ≤ IntKind.i16.max := by simpa [Lit.wf] using h
  have e1 : IntKind.i16.min = -32768 := by decide
  have e2 : IntKind.i16.max = 32767 := by decide
  omega
theorem u16_range {o : Int} (h : (Lit.int .u16 o).wf = true) : 0 ≤ o ∧ o ≤ 65535 := by
  have h2 : IntKind.u16.min ≤ o ∧ o ≤ IntKind.u16.max := by simpa [Lit.wf] using h
  have e1 : IntKind.u16.min = 0 := by decide
  have e2 : IntKind.u16.max = 65535 := by decide
  omega
theorem l_trans {w2 W w' : World} (h : Below w2.heap.size w2 W) (h' : Below W.heap.size W w') : Below w2.heap.size w2 w' := h.trans (h'.mono h.size)
namespace Dc
theorem ones_digs (n : Nat) : Digs (List.replicate n 1) := fun x hx => by rw [(List.mem_replicate.1 hx).2]; omega
theorem ones_canon {n : Nat} {e : Int} (h0 : 0 < n) (hn : n ≤ 400) (he : -2000 ≤ e ∧ e ≤ 2000) : Canon ⟨false, List.replicate n 1, e⟩ := by
  refine ⟨⟨ones_digs n, fun h => ?_, fun u hu => ?_, fun u hu => ?_⟩, limit_ok.2 ⟨by simpa using hn, he.1, he.2⟩⟩
  · have := congrArg List.length h
    simp at this
    omega
  · have := List.mem_of_head? hu
    rw [(List.mem_replicate.1 this).2]; decide
  · have := List.mem_of_getLast? hu
    rw [(List.mem_replicate.1 this).2]; decide
end Dc

theorem is0_num {x : Dc.D} {v : Value} (w : World) (hv : RNum w v x) (hd : Dc.Digs x.c) (hn : x.c.length ≤ 1048576) :
    Calls Tryd.prog 23 #[.string ⟨(Dc.resS x).toArray⟩, .int .i64 (Dc.limit x : Int), v] w fun y w' => y = .returned (.bool true) ∧ Below w.heap.size w w' := by
  obtain ⟨A, c, rfl, hr⟩ := hv
  exact is0_true x.neg A x.c.length c x.c x.e w hr hd hn
/-- Two boxed numbers. -/
theorem two_boxes {w5 : World} {X Y : Nat} {g g' : Bool} {A A' : Option Addr} {n c m d : Nat} {e e' : Int} {t t' : TypeId} (hX : w5.heap[X]? = some (.cells #[.bool g, .slice A n c, .int .i64 e] t (0, 0))) (hY : w5.heap[Y]? = some (.cells #[.bool g', .slice A' m d, .int .i64 e'] t' (0, 0))) :
    ∀ W, Below w5.heap.size w5 W → W.cell? ⟨X, 0, none⟩ = some (.bool g) ∧ W.cell? ⟨X, 1, none⟩ = some (.slice A n c) ∧ W.cell? ⟨X, 2, none⟩ = some (.int .i64 e) ∧
      W.cell? ⟨Y, 0, none⟩ = some (.bool g') ∧ W.cell? ⟨Y, 1, none⟩ = some (.slice A' m d) ∧ W.cell? ⟨Y, 2, none⟩ = some (.int .i64 e') ∧ Below w5.heap.size w5 W := by
  intro W hW
  have h1 := (hW.block X (lt_of_block hX)).trans hX
  have h2 := (hW.block Y (lt_of_block hY)).trans hY
  exact ⟨at_block h1 0 _ rfl, at_block h1 1 _ rfl, at_block h1 2 _ rfl, at_block h2 0 _ rfl, at_block h2 1 _ rfl, at_block h2 2 _ rfl, hW⟩
/-- What is called at the two numbers of the law. -/
theorem limits_calls (n1 n2 c1 c2 : Nat) (A1 A2 : Option Addr) (E F : Int) (h1 : 0 < n1 ∧ n1 ≤ 400) (h2 : 0 < n2 ∧ n2 ≤ 400) (hE : -2000 ≤ E ∧ E ≤ 2000) (hF : -2000 ≤ F ∧ F ≤ 2000) (l1 l2 : List Nat) (e1 : List.replicate n1 1 = l1) (e2 : List.replicate n2 1 = l2) :
    ∃ (S1 S2 T1 T2 : ByteArray) (g1 g2 c : Int) (P Q : Dc.D),
      (∀ W, Reads W W.heap.size A1 n1 (i64s l1) → Calls Tryd.prog 19 #[.agg #[.bool false, .slice A1 n1 c1, .int .i64 E]] W fun x w' => x = .returned (.string S1) ∧ Below W.heap.size W w') ∧
      (∀ W, Reads W W.heap.size A2 n2 (i64s l2) → Calls Tryd.prog 19 #[.agg #[.bool false, .slice A2 n2 c2, .int .i64 F]] W fun x w' => x = .returned (.string S2) ∧ Below W.heap.size W w') ∧
      (∀ W, Laid W → Calls Tryd.prog 30 #[.string S1, .string S2] W fun x w' => x = .returned (.tuple #[.string T1, .int .i64 g1]) ∧ Below W.heap.size W w') ∧
      (∀ W, Laid W → Calls Tryd.prog 31 #[.string S1, .string S2] W fun x w' => x = .returned (.tuple #[.string T2, .int .i64 g2]) ∧ Below W.heap.size W w') ∧
      (∀ W, Reads W W.heap.size A1 n1 (i64s l1) → Reads W W.heap.size A2 n2 (i64s l2) → Calls Tryd.prog 32 #[.agg #[.bool false, .slice A1 n1 c1, .int .i64 E], .agg #[.bool false, .slice A2 n2 c2, .int .i64 F]] W fun x w' => ∃ v, x = .returned v ∧ RNum w' v P ∧ Below W.heap.size W w') ∧
      (∀ W, Reads W W.heap.size A1 n1 (i64s l1) → Reads W W.heap.size A2 n2 (i64s l2) → Calls Tryd.prog 33 #[.agg #[.bool false, .slice A1 n1 c1, .int .i64 E], .agg #[.bool false, .slice A2 n2 c2, .int .i64 F]] W fun x w' => ∃ v, x = .returned v ∧ RNum w' v Q ∧ Below W.heap.size W w') ∧
      (∀ W v, RNum W v P → Calls Tryd.prog 23 #[.string T1, .int .i64 g1, v] W fun y w' => y = .returned (.bool true) ∧ Below W.heap.size W w') ∧
      (∀ W v, RNum W v Q → Calls Tryd.prog 23 #[.string T2, .int .i64 g2, v] W fun y w' => y = .returned (.bool true) ∧ Below W.heap.size W w') ∧
      (∀ W, Laid W → Calls Tryd.prog 34 #[.string S1, .string S2] W fun x w' => x = .returned (.int .i64 c) ∧ Below W.heap.size W w') ∧
      (∀ W, Reads W W.heap.size A1 n1 (i64s l1) → Reads W W.heap.size A2 n2 (i64s l2) → Calls Tryd.prog 35 #[.agg #[.bool false, .slice A1 n1 c1, .int .i64 E], .agg #[.bool false, .slice A2 n2 c2, .int .i64 F]] W fun x w' => x = .returned (.int .i64 c) ∧ Below W.heap.size W w') := by
  subst e1 e2
  obtain ⟨x, hx⟩ : ∃ x : Dc.D, (⟨false, List.replicate n1 1, E⟩ : Dc.D) = x := ⟨_, rfl⟩
  obtain ⟨y, hy⟩ : ∃ y : Dc.D, (⟨false, List.replicate n2 1, F⟩ : Dc.D) = y := ⟨_, rfl⟩
  have cx : Dc.Canon x := by rw [← hx]; exact Dc.ones_canon h1.1 h1.2 hE
  have cy : Dc.Canon y := by rw [← hy]; exact Dc.ones_canon h2.1 h2.2 hF
  have d1 := Dc.ones_digs n1
  have d2 := Dc.ones_digs n2
  have rx := Dc.readP_show cx
  have ry := Dc.readP_show cy
  have ha : Dc.addS (Dc.showB x) (Dc.showB y) = (Dc.resS (Dc.sumP x y), Dc.limit (Dc.sumP x y)) := by rw [Dc.addS, rx, ry]
  have hm : Dc.mulS (Dc.showB x) (Dc.showB y) = (Dc.resS (Dc.prodP x y), Dc.limit (Dc.prodP x y)) := by rw [Dc.mulS, rx, ry]
  have hc : Dc.cmpS (Dc.showB x) (Dc.showB y) = Dc.cmpP x y := by rw [Dc.cmpS, rx, ry]
  have lx := Dc.showB_len cx.2
  have ly := Dc.showB_len cy.2
  have sx : (⟨(Dc.showB x).toArray⟩ : ByteArray).size ≤ 500 := lx
  have sy : (⟨(Dc.showB y).toArray⟩ : ByteArray).size ≤ 500 := ly
  have bs := Dc.sumP_bound cx cy
  have bp := Dc.prodP_bound2 cx cy
  have ra := Dc.refAddP_eq cx.1 cy.1
  have rc := Dc.refCmpP_eq cx.1 cy.1
  refine ⟨⟨(Dc.showB x).toArray⟩, ⟨(Dc.showB y).toArray⟩, ⟨(Dc.resS (Dc.sumP x y)).toArray⟩, ⟨(Dc.resS (Dc.prodP x y)).toArray⟩, (Dc.limit (Dc.sumP x y) : Int), (Dc.limit (Dc.prodP x y) : Int), Dc.cmpP x y, Dc.sumP x y, Dc.prodP x y, ?_, ?_, ?_, ?_, ?_, ?_, ?_, ?_, ?_, ?_⟩
  · intro W hW
    have := show_any false A1 n1 c1 _ E W hW d1 (by omega) (by omega)
    rw [hx] at this; exact this
  · intro W hW
    have := show_any false A2 n2 c2 _ F W hW d2 (by omega) (by omega)
    rw [hy] at this; exact this
  · intro W hW
    have := add_2 ⟨(Dc.showB x).toArray⟩ ⟨(Dc.showB y).toArray⟩ W (by omega) (by omega) hW
    rw [show Dc.addS _ _ = _ from ha] at this; exact this
  · intro W hW
    have := mul_2 ⟨(Dc.showB x).toArray⟩ ⟨(Dc.showB y).toArray⟩ W (by omega) (by omega) hW
    rw [show Dc.mulS _ _ = _ from hm] at this; exact this
  · intro W hW hW'
    have := refadd_any false A1 n1 c1 _ E false A2 n2 c2 _ F W hW hW' d1 d2 (by omega) (by omega) (by omega) (by omega)
    rw [hx, hy, ra] at this; exact this
  · intro W hW hW'
    have := refmul_any false A1 n1 c1 _ E false A2 n2 c2 _ F W hW hW' d1 d2 (by omega) (by omega) (by omega) (by omega)
    rw [hx, hy] at this; exact this
  · intro W v hv
    exact is0_num W hv bs.1.1 (by omega)
  · intro W v hv
    exact is0_num W hv bp.1.1 (by omega)
  · intro W hW
    have := cmp_any ⟨(Dc.showB x).toArray⟩ ⟨(Dc.showB y).toArray⟩ W (by omega) (by omega) hW
    rw [show Dc.cmpS _ _ = _ from hc] at this; exact this
  · intro W hW hW'
    have := refcmp_any false A1 n1 c1 _ E false A2 n2 c2 _ F W hW hW' (by omega) (by omega) (by omega) (by omega)
    rw [hx, hy, rc] at this; exact this

set_option maxHeartbeats 4000000 in
set_option maxRecDepth 100000 in
theorem law7 (e f n : Int) (w : World) (he : (Lit.int .i16 e).wf = true) (hf : (Lit.int .i16 f).wf = true) (hn : (Lit.int .u16 n).wf = true) (hL : Laid w) :
    Calls Tryd.prog 7 #[.int .i16 e, .int .i16 f, .int .u16 n] w fun x w' => x = .returned (.bool true) ∧ Below w.heap.size w w' := by
  obtain ⟨b1, b2⟩ := i16_range he
  obtain ⟨b3, b4⟩ := i16_range hf
  obtain ⟨b5, b6⟩ := u16_range hn
  obtain ⟨m, rfl⟩ : ∃ m : Nat, n = (m : Int) := ⟨n.toNat, (Int.toNat_of_nonneg b5).symm⟩
  have AW := Lib.hid (awake_any w hL)
  have HL := Lib.hid hL
  obtain ⟨k1, hk1⟩ : ∃ k, m % 400 = k := ⟨_, rfl⟩
  obtain ⟨k2, hk2⟩ : ∃ k, m / 400 % 400 = k := ⟨_, rfl⟩
  obtain ⟨m4, hm4⟩ : ∃ k, m / 400 = k := ⟨_, rfl⟩
  rw [hm4] at hk2
  obtain ⟨n1, hn1⟩ : ∃ k, k1 + 1 = k := ⟨_, rfl⟩
  obtain ⟨n2, hn2⟩ : ∃ k, k2 + 1 = k := ⟨_, rfl⟩
  obtain ⟨E, hE⟩ : ∃ E, Int.tmod e 2001 = E := ⟨_, rfl⟩
  obtain ⟨F, hF⟩ : ∃ F, Int.tmod f 2001 = F := ⟨_, rfl⟩
  have hEb : -2000 ≤ E ∧ E ≤ 2000 := by
    have h1 := Int.tmod_lt_of_pos e (b := 2001) (by decide)
    have h2 := Int.lt_tmod_of_pos e (b := 2001) (by decide)
    omega
  have hFb : -2000 ≤ F ∧ F ≤ 2000 := by
    have h1 := Int.tmod_lt_of_pos f (b := 2001) (by decide)
    have h2 := Int.lt_tmod_of_pos f (b := 2001) (by decide)
    omega
  have hw1 : IntKind.i64.wrap (m : Int) = (m : Int) := IntWalk.i64_in _ (by omega)
  have hw2 : Int.tmod (m : Int) 400 = (k1 : Int) := by rw [Int.tmod_eq_emod_of_nonneg (by omega)]; omega
  have hw3 : IntKind.i64.wrap ((k1 : Int) + 1) = (n1 : Int) := by rw [← hn1, Int.natCast_add]; exact IntWalk.i64_in _ (by omega)
  have hw4 : Int.tdiv (m : Int) 400 = (m4 : Int) := by rw [Int.tdiv_eq_ediv_of_nonneg (by omega)]; omega
  have hw5 : Int.tmod (m4 : Int) 400 = (k2 : Int) := by rw [Int.tmod_eq_emod_of_nonneg (by omega)]; omega
  have hw6 : IntKind.i64.wrap ((k2 : Int) + 1) = (n2 : Int) := by rw [← hn2, Int.natCast_add]; exact IntWalk.i64_in _ (by omega)
  have hw7 : IntKind.i64.wrap e = e := IntWalk.i64_in _ (by omega)
  have hw8 : IntKind.i64.wrap f = f := IntWalk.i64_in _ (by omega)
  have hw9 : IntKind.i64.wrap (m4 : Int) = (m4 : Int) := IntWalk.i64_in _ (by omega)
  have hn1b : 0 < n1 ∧ n1 ≤ 400 := by omega
  have hn2b : 0 < n2 ∧ n2 ≤ 400 := by omega
  have ON1 := Lib.hid (fun W => ones_any n1 W hn1b.2)
  have ON2 := Lib.hid (fun W => ones_any n2 W hn2b.2)
  clear hL he hf hn hk1 hk2 hm4 hn1 hn2
  go_enter Tryd.func7, Tryd.ntmps7
  go_wp2_with fail
  refine (AW.out).mono ?_
  rintro x w1 ⟨rfl, hb1⟩
  go_wp2_with fail
  refine (ON1.out _).mono ?_
  rintro x w2 ⟨v1, rfl, ho1, hb2⟩
  obtain ⟨A1, c1, rfl, _, hr1⟩ := own_slice ho1
  have HR1 := Lib.hid hr1
  clear ho1 hr1
  go_upto_region 4 with fail
  obtain ⟨l1, hl1⟩ : ∃ l, List.replicate n1 1 = l := ⟨_, rfl⟩
  obtain ⟨l2, hl2⟩ : ∃ l, List.replicate n2 1 = l := ⟨_, rfl⟩
  have hr2 := HR1.out
  rw [hl1] at hr2
  have hX := heap_alloc_new w2 (.cells #[.bool false, .slice A1 n1 c1, .int .i64 E] 25)
  obtain ⟨X, hXs⟩ : ∃ X, w2.heap.size = X := ⟨_, rfl⟩
  have hb3 : Below w2.heap.size w2 (w2.alloc (.cells #[.bool false, .slice A1 n1 c1, .int .i64 E] 25)) := (Below.refl _ _).alloc (Nat.le_refl _) _
  have hr3 := hr2.on hb3
  have hb13 : Below w.heap.size w (w2.alloc (.cells #[.bool false, .slice A1 n1 c1, .int .i64 E] 25)) := l_trans (l_trans hb1 hb2) hb3
  rw [hXs] at hX
  rw [hXs]
  obtain ⟨w3, hw3⟩ : ∃ w3, w2.alloc (.cells #[.bool false, .slice A1 n1 c1, .int .i64 E] 25) = w3 := ⟨_, rfl⟩
  rw [hw3] at hX hr3 hb13
  rw [hw3]
  have HX := Lib.hid hX
  have HR3 := Lib.hid hr3
  clear hX hr3 hr2 HR1 hw3 hXs hb3 hb1 hb2
  go_wp2_with fail
  refine (ON2.out _).mono ?_
  rintro x w4 ⟨v2, rfl, ho2, hb4⟩
  obtain ⟨A2, c2, rfl, _, hr4⟩ := own_slice ho2
  rw [hl2] at hr4
  have hX4 := (hb4.block X (lt_of_block HX.out)).trans HX.out
  have hr4' := HR3.out.on hb4
  have hb14 : Below w.heap.size w w4 := l_trans hb13 hb4
  clear ho2 HX HR3 hb4 hb13
  have HX4 := Lib.hid hX4
  have HR4 := Lib.hid (And.intro hr4' hr4)
  clear hX4 hr4 hr4'
  go_upto_region 5 with fail
  have hY := heap_alloc_new w4 (.cells #[.bool false, .slice A2 n2 c2, .int .i64 F] 25)
  obtain ⟨Y, hYs⟩ : ∃ Y, w4.heap.size = Y := ⟨_, rfl⟩
  have hb5 : Below w4.heap.size w4 (w4.alloc (.cells #[.bool false, .slice A2 n2 c2, .int .i64 F] 25)) := (Below.refl _ _).alloc (Nat.le_refl _) _
  have hX5 := (hb5.block X (lt_of_block HX4.out)).trans HX4.out
  have hr5 := HR4.out.1.on hb5
  have hr5' := HR4.out.2.on hb5
  have hbz : Below w.heap.size w (w4.alloc (.cells #[.bool false, .slice A2 n2 c2, .int .i64 F] 25)) := l_trans hb14 hb5
  rw [hYs] at hY
  rw [hYs]
  obtain ⟨w5, hw5⟩ : ∃ w5, w4.alloc (.cells #[.bool false, .slice A2 n2 c2, .int .i64 F] 25) = w5 := ⟨_, rfl⟩
  rw [hw5] at hX5 hr5 hr5' hbz hY
  rw [hw5]
  obtain ⟨S1, S2, T1, T2, g1, g2, c, P, Q, k1', k2', k3', k4', k5', k6', k7', k8', k9', k10'⟩ := limits_calls n1 n2 c1 c2 A1 A2 E F hn1b hn2b hEb hFb l1 l2 hl1 hl2
  have SH1 := Lib.hid k1'
  have SH2 := Lib.hid k2'
  have AD := Lib.hid k3'
  have ML := Lib.hid k4'
  have RA := Lib.hid k5'
  have RM := Lib.hid k6'
  have IA := Lib.hid k7'
  have IM := Lib.hid k8'
  have CM := Lib.hid k9'
  have RC := Lib.hid k10'
  have HC := Lib.hid (two_boxes hX5 hY)
  have HL5 := Lib.hid (HL.out.on hbz)
  have HR5 := Lib.hid hr5
  have HR5' := Lib.hid hr5'
  obtain ⟨x0, x1, x2, y0, y1, y2, _⟩ := HC.out _ (Below.refl _ _)
  clear hw5 hX5 hr5 hr5' hY hYs hb5 HX4 HR4 k1' k2' k3' k4' k5' k6' k7' k8' k9' k10' hl1 hl2
  go_region_held3 (fun W => W.cell? ⟨X, 0, none⟩ = some (.bool false) ∧ W.cell? ⟨X, 1, none⟩ = some (.slice A1 n1 c1) ∧ W.cell? ⟨X, 2, none⟩ = some (.int .i64 E) ∧ W.cell? ⟨Y, 0, none⟩ = some (.bool false) ∧ W.cell? ⟨Y, 1, none⟩ = some (.slice A2 n2 c2) ∧ W.cell? ⟨Y, 2, none⟩ = some (.int .i64 F) ∧ Below w5.heap.size w5 W)
    ((refine HC.out _ ?_; first | assumption | exact (Below.refl _ _).drew | exact b_drew (by assumption)))
    (first | (with_reducible refine (SH1.out _ (HR5.out.on (p6 (by assumption)))).mono ?_; rintro x w6 ⟨rfl, hb6⟩; have hb6' := p6_trans (by assumption) hb6) | (with_reducible refine (SH2.out _ (HR5'.out.on (p6 (by assumption)))).mono ?_; rintro x w7 ⟨rfl, hb7⟩; have hb7' := p6_trans (by assumption) hb7) | (with_reducible refine (AD.out _ (HL5.out.on (p6 (by assumption)))).mono ?_; rintro x w8 ⟨rfl, hb8⟩; have hb8' := p6_trans (by assumption) hb8))
  clear x0 x1 x2 y0 y1 y2 hb6 hb6' hb7 hb7' hb8
  obtain ⟨x0, x1, x2, y0, y1, y2, _⟩ := HC.out _ hb8'
  go_upto_region 6 with fail
  go_region_held3 (fun W => W.cell? ⟨X, 0, none⟩ = some (.bool false) ∧ W.cell? ⟨X, 1, none⟩ = some (.slice A1 n1 c1) ∧ W.cell? ⟨X, 2, none⟩ = some (.int .i64 E) ∧ W.cell? ⟨Y, 0, none⟩ = some (.bool false) ∧ W.cell? ⟨Y, 1, none⟩ = some (.slice A2 n2 c2) ∧ W.cell? ⟨Y, 2, none⟩ = some (.int .i64 F) ∧ Below w5.heap.size w5 W)
    ((refine HC.out _ ?_; first | assumption | exact b_drew hb8' | exact b_drew (by assumption)))
    (first | (with_reducible refine (SH1.out _ (HR5.out.on (p6 (by assumption)))).mono ?_; rintro x w9 ⟨rfl, hb9⟩; have hb9' := p6_trans (by assumption) hb9) | (with_reducible refine (SH2.out _ (HR5'.out.on (p6 (by assumption)))).mono ?_; rintro x w10 ⟨rfl, hb10⟩; have hb10' := p6_trans (by assumption) hb10) | (with_reducible refine (ML.out _ (HL5.out.on (p6 (by assumption)))).mono ?_; rintro x w11 ⟨rfl, hb11⟩; have hb11' := p6_trans (by assumption) hb11))
  clear x0 x1 x2 y0 y1 y2 hb9 hb9' hb10 hb10' hb11 hb8'
  obtain ⟨x0, x1, x2, y0, y1, y2, _⟩ := HC.out _ hb11'
  go_upto_region 7 with fail
  go_region_held3 (fun W => W.cell? ⟨X, 0, none⟩ = some (.bool false) ∧ W.cell? ⟨X, 1, none⟩ = some (.slice A1 n1 c1) ∧ W.cell? ⟨X, 2, none⟩ = some (.int .i64 E) ∧ W.cell? ⟨Y, 0, none⟩ = some (.bool false) ∧ W.cell? ⟨Y, 1, none⟩ = some (.slice A2 n2 c2) ∧ W.cell? ⟨Y, 2, none⟩ = some (.int .i64 F) ∧ Below w5.heap.size w5 W)
    ((refine HC.out _ ?_; first | assumption | exact b_drew hb11' | exact b_drew (by assumption)))
    (first | (with_reducible refine (RA.out _ (HR5.out.on (p6 (by assumption))) (HR5'.out.on (p6 (by assumption)))).mono ?_; rintro x w12 ⟨v12, rfl, hv12, hb12⟩; have hb12' := p6_trans (by assumption) hb12) | (with_reducible refine (IA.out _ v12 hv12).mono ?_; rintro x w13 ⟨rfl, hb13⟩; have hb13' := p6_trans (by assumption) hb13) | (with_reducible refine (RM.out _ (HR5.out.on (p6 (by assumption))) (HR5'.out.on (p6 (by assumption)))).mono ?_; rintro x w14 ⟨v14, rfl, hv14, hb14⟩; have hb14' := p6_trans (by assumption) hb14) | (with_reducible refine (IM.out _ v14 hv14).mono ?_; rintro x w15 ⟨rfl, hb15⟩; have hb15' := p6_trans (by assumption) hb15) | (with_reducible refine (SH1.out _ (HR5.out.on (p6 (by assumption)))).mono ?_; rintro x w16 ⟨rfl, hb16⟩; have hb16' := p6_trans (by assumption) hb16) | (with_reducible refine (SH2.out _ (HR5'.out.on (p6 (by assumption)))).mono ?_; rintro x w17 ⟨rfl, hb17⟩; have hb17' := p6_trans (by assumption) hb17) | (with_reducible refine (CM.out _ (HL5.out.on (p6 (by assumption)))).mono ?_; rintro x w18 ⟨rfl, hb18⟩; have hb18' := p6_trans (by assumption) hb18) | (with_reducible refine (RC.out _ (HR5.out.on (p6 (by assumption))) (HR5'.out.on (p6 (by assumption)))).mono ?_; rintro x w19 ⟨rfl, hb19⟩; have hb19' := p6_trans (by assumption) hb19))
  go_wp2_with fail
  go_ret
  exact ⟨rfl, l_trans hbz hb19'⟩
end Go.Proofs.YtmgafnflkfbckaaDoor

namespace Go.Proofs.YtmgafnflkfbckaaDoor.lawLimits
open Go.ChangeShapes Go.WideShapes Go.ChangeAt Go.RowKit Go.Lib
open Go.ChangeMaps (open_string)

theorem params_ok : ∀ t ∈ Tryd.f7.params.toList, Tryd.prog.readableRec t = true ∧ t < Tryd.prog.types.size := by
  have h : (Tryd.f7.params.toList.all fun t => Tryd.prog.readableRec t && decide (t < Tryd.prog.types.size)) = true := by kernel_rfl
  intro t ht
  have := List.all_eq_true.1 h t ht
  simpa using this

set_option maxRecDepth 100000 in
theorem contract (H : Type) (enc : TypeId × Value → H) (W : World) (base : Nat) (args : Array Value) (ds gs : List (DataW H)) (before : List MemPlace)
    (hval : ∀ (j : Nat) t v, Tryd.f7.params[j]? = some t → args[j]? = some v → Value.okWide Tryd.prog W .any base t v)
    (hW : DataW.Whole enc Tryd.prog Tryd.f7.params.toList Rows.decimalLimitsSpec.vars false W args.toList ds gs before) (hL : laidMetH Tryd.prog laidL W) :
    Calls Tryd.prog 7 args W fun e W' => ∃ v, e = .returned v ∧ Rows.decimalLimitsSpec.post enc Tryd.prog Tryd.f7 false true false false W args v W' := by
  have hW' := hW
  obtain ⟨p, q, hA0, hV, rfl, hfz, hnd⟩ := hW
  have hA : DataW.TrodAll enc Tryd.prog W 0 (fun _ => true) true Tryd.f7.params.toList args.toList ds p := hA0
  rw [Tryd.params7] at hA hval
  obtain ⟨v0, vs0, d0, ds0, p0, q0, hargs, rfl, rfl, h0, r0⟩ := trodAll_cons hA
  obtain ⟨v1, vs1, d1, ds1, p1, q1, rfl, rfl, rfl, h1, r1⟩ := trodAll_cons r0
  obtain ⟨v2, vs2, d2, ds2, p2, q2, rfl, rfl, rfl, h2, r2⟩ := trodAll_cons r1
  obtain ⟨rfl, rfl, rfl⟩ := trodAll_nil r2
  obtain rfl : args = #[v0, v1, v2] := by cases args; simp_all
  obtain ⟨rfl, rfl⟩ := trodVars_none hV
  obtain ⟨n0, rfl, rfl, rfl, wa0⟩ := open_int Tryd.underlying45 (hval 0 45 v0 rfl rfl) h0
  obtain ⟨n1, rfl, rfl, rfl, wa1⟩ := open_int Tryd.underlying45 (hval 1 45 v1 rfl rfl) h1
  obtain ⟨n2, rfl, rfl, rfl, wa2⟩ := open_int Tryd.underlying46 (hval 2 46 v2 rfl rfl) h2
  refine (law7 n0 n1 n2 W wa0 wa1 wa2 (laid_of hL)).mono fun e W' ⟨he, hb⟩ => ?_
  subst he
  exact ⟨_, rfl, post_keep hW' rfl (fun _ _ _ => trodAll_cons_mk (shut_bool Tryd.underlying4 _) trodAll_mk0) rfl rfl laidOut params_ok hb⟩

set_option maxRecDepth 100000 in
theorem reads (os : Os) {H : Type} (enc : TypeId × Value → H) : ∃ places, DataW.whole enc Tryd.prog ((laidWorld os).forCall (fun _ _ => 0) ⟨#[], #[.int .i16 0, .int .i16 0, .int .u16 0], []⟩).memory Tryd.f7.params.toList Rows.decimalLimitsSpec.vars false (#[.int .i16 0, .int .i16 0, .int .u16 0] : Array Value).toList 8 = some ([.lit (.int .i16 0), .lit (.int .i16 0), .lit (.int .u16 0)], [], places) :=
  ⟨[], by kernel_rfl⟩

set_option maxRecDepth 100000 in
theorem lifted (os : Os) (started : os.Started) (H : Type) (enc : TypeId × Value → H) (F : Stop.Interp) :
    ReturnsInHanded {} Tryd.checked os 7 .any ((OpenSpec.ofChange Rows.decimalLimitsSpec).preRow enc Tryd.prog Tryd.f7 Rows.decimalLimitsRow.domain false Rows.decimalLimitsRow.laid) (((OpenSpec.ofChange Rows.decimalLimitsSpec).at F).post enc Tryd.prog Tryd.f7 false true false false) := by
  obtain ⟨places, hx⟩ := reads os enc
  refine returnsInHanded_of_row (C := Tryd.checked) (s := OpenSpec.ofChange Rows.decimalLimitsSpec) own started (by kernel_rfl) Tryd.func7
    (witness_row_at (enc := enc) (C := Tryd.checked) false (laidWorld os) #[.int .i16 0, .int .i16 0, .int .u16 0] (World.laidAll_os _ _ _) (by kernel_rfl) (by kernel_rfl) (by kernel_rfl)
      (OpenSpec.preRow_of_cond 8 hx (by kernel_rfl) (fun k hk => by cases hk) (by kernel_rfl) (laid_met os _))) ?_
  intro W base args ds gs before hval hW _ _ _ hL _ _
  exact contract H enc W base args ds gs before hval hW hL

theorem said : Rows.DecimalLimitsSaid :=
  OpenClaim.holds_of_cond 7 Tryd.f7 rfl rfl rfl rfl rfl rfl rfl ⟨rfl, rfl, rfl, rfl, rfl⟩ rfl rfl rfl rfl rfl (by kernel_rfl) Tryd.func7 (by kernel_rfl)
    (of_decide_eq_true (by kernel_rfl)) (by unfold Func.isWrapper; first | (rw [if_pos (by decide +kernel)]; kernel_rfl) | (rw [if_neg (by decide +kernel)]; exact ⟨rfl, rfl⟩))
    (fun os started H enc _ F => by rw [OpenClaim.pre_eq_preRow]; exact lifted os started H enc F)

/-- No parameter wants a stand-in; the program's own looks are off. -/
theorem plain (f : FuncId) (fn : Func) (hf : Tryd.pinned.checked.prog.funcNamed Tryd.f7.name = some f) (hfn : Tryd.pinned.checked.prog.funcs[f]? = some fn) :
    true = Tryd.pinned.checked.prog.looks [] ∧ ∀ (j : Nat) t, fn.params[j]? = some t → Tryd.pinned.checked.prog.wantsStandIn t = false := by
  obtain rfl : f = 7 := Option.some.inj ((show Tryd.prog.funcNamed Tryd.f7.name = some 7 by kernel_rfl).symm.trans hf) |>.symm
  obtain rfl : fn = Tryd.f7 := (Option.some.inj (Tryd.func7.symm.trans hfn)).symm
  refine ⟨by kernel_rfl, fun j t ht => ?_⟩
  have h : (Tryd.f7.params.toList.all fun t => !Tryd.prog.wantsStandIn t) = true := by kernel_rfl
  have hm : t ∈ Tryd.f7.params.toList := by simpa using Array.mem_of_getElem? ht
  have h1 : (!Tryd.prog.wantsStandIn t) = true := List.all_eq_true.1 h t hm
  have h2 : Tryd.prog.wantsStandIn t = false := by simpa using h1
  exact h2

/-- The card: what is claimed. -/
theorem card : Rows.DecimalLimitsCardSaid :=
  Claim7.holds_tied_plain_at .later [] _ _ _ _ said (fun _ h => by cases h) (by kernel_rfl) (fun _ h => by cases h) decimalLimits_row_tie rfl ⟨rfl, rfl⟩ (by kernel_rfl) rfl plain (by kernel_rfl)
#print axioms card
end Go.Proofs.YtmgafnflkfbckaaDoor.lawLimits
