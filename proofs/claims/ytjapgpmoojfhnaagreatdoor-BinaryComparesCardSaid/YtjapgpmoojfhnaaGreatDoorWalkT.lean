/- The reference: Cmp. -/
import Derived.Test.YtjapgpmoojfhnaaGreatDoorWalkS
namespace Go.Proofs.YtjapgpmoojfhnaaGreatDoor
open Go.RowKit Go.Lib

theorem f8 {A B C D E F G H : Prop} {a W : World} (h : A ∧ B ∧ C ∧ D ∧ E ∧ F ∧ G ∧ H ∧ Below a.heap.size a W) : Below a.heap.size a W := h.2.2.2.2.2.2.2.2
theorem f8_trans {A B C D E F G H : Prop} {a W W' : World} (h : A ∧ B ∧ C ∧ D ∧ E ∧ F ∧ G ∧ H ∧ Below a.heap.size a W) (hb : Below W.heap.size W W') : Below a.heap.size a W' := (f8 h).trans (hb.mono (f8 h).size)
/-- The float of a word that is no NaN: its parts, and whether it is zero. -/
theorem ref_parts (b : Nat) (nb : b % 9223372036854775808 ≤ 9218868437227405312) : ∃ (k : Int) (n : Bool) (m e : Int), Fl.refF b = .agg #[.int .i64 k, .bool n, .int .u64 m, .int .i64 e] ∧
    ((b % 9223372036854775808 = 0 ∧ (m == 0) = true ∧ (k == 0) = true) ∨ (b % 9223372036854775808 ≠ 0 ∧ ((m == 0) = false ∨ ((m == 0) = true ∧ (k == 0) = false)))) := by
  unfold Fl.refF
  rw [if_neg (by omega)]
  by_cases h2 : b % 9223372036854775808 = 9218868437227405312
  · rw [if_pos h2]
    exact ⟨_, _, _, _, rfl, Or.inr ⟨by omega, Or.inr ⟨rfl, rfl⟩⟩⟩
  · rw [if_neg h2]
    by_cases h3 : b % 9223372036854775808 = 0
    · rw [if_pos h3]
      exact ⟨_, _, _, _, rfl, Or.inl ⟨h3, rfl, rfl⟩⟩
    · rw [if_neg h3]
      have := (Fl.om_spec (r := b % 9223372036854775808) (by omega)).2.2.1
      exact ⟨_, _, _, _, rfl, Or.inr ⟨h3, Or.inl (by rw [beq_eq_false_iff_ne]; omega)⟩⟩
set_option maxHeartbeats 4000000 in
set_option maxRecDepth 100000 in
theorem refcmp_key (x y : Nat) (nx : x % 9223372036854775808 ≤ 9218868437227405312) (ny : y % 9223372036854775808 ≤ 9218868437227405312) (w : World) :
    Calls Tryz.prog 32 #[Fl.refF x, Fl.refF y] w fun z w' => z = .returned (.int .i64 (Fl.cmpW x y)) ∧ Below w.heap.size w w' := by
  have PX := fun W => place_any x nx W
  have PY := fun W => place_any y ny W
  obtain ⟨kx, sx, mx, ex, hx, zx⟩ := ref_parts x nx
  obtain ⟨ky, sy, my, ey, hy, zy⟩ := ref_parts y ny
  rw [hx] at PX ⊢
  rw [hy] at PY ⊢
  have q := two_blocks w (.cells #[.int .i64 kx, .bool sx, .int .u64 mx, .int .i64 ex] 24) (.cells #[.int .i64 ky, .bool sy, .int .u64 my, .int .i64 ey] 24)
  obtain ⟨w2, hw2⟩ : ∃ w2 : World, (w.alloc (.cells #[.int .i64 kx, .bool sx, .int .u64 mx, .int .i64 ex] 24)).alloc (.cells #[.int .i64 ky, .bool sy, .int .u64 my, .int .i64 ey] 24) = w2 := ⟨_, rfl⟩
  obtain ⟨X, hX⟩ : ∃ X, w.heap.size = X := ⟨_, rfl⟩
  rw [hw2, hX] at q
  obtain ⟨q1, q2, hb2, hs2⟩ := q
  have hC : ∀ W, Below w2.heap.size w2 W → W.cell? ⟨X, 0, none⟩ = some (.int .i64 kx) ∧ W.cell? ⟨X, 1, none⟩ = some (.bool sx) ∧ W.cell? ⟨X, 2, none⟩ = some (.int .u64 mx) ∧ W.cell? ⟨X, 3, none⟩ = some (.int .i64 ex) ∧ W.cell? ⟨X + 1, 0, none⟩ = some (.int .i64 ky) ∧ W.cell? ⟨X + 1, 1, none⟩ = some (.bool sy) ∧ W.cell? ⟨X + 1, 2, none⟩ = some (.int .u64 my) ∧ W.cell? ⟨X + 1, 3, none⟩ = some (.int .i64 ey) ∧ Below w2.heap.size w2 W := fun W hW => by
    have h1 := (hW.block X (lt_of_block q1)).trans q1
    have h2 := (hW.block (X + 1) (lt_of_block q2)).trans q2
    exact ⟨at_block h1 0 _ rfl, at_block h1 1 _ rfl, at_block h1 2 _ rfl, at_block h1 3 _ rfl, at_block h2 0 _ rfl, at_block h2 1 _ rfl, at_block h2 2 _ rfl, at_block h2 3 _ rfl, hW⟩
  obtain ⟨x0, x1, x2, x3, y0, y1, y2, y3, _⟩ := hC w2 (Below.refl _ _)
  obtain ⟨a, ha⟩ : ∃ a, Fl.key x = a := ⟨_, rfl⟩
  obtain ⟨b, hb⟩ : ∃ b, Fl.key y = b := ⟨_, rfl⟩
  obtain ⟨c, hc⟩ : ∃ c, Fl.cmpW x y = c := ⟨_, rfl⟩
  have hcc : c = if a < b then -1 else if b < a then 1 else 0 := by rw [← hc, Fl.cmpW, ha, hb]
  have hzz : x % 9223372036854775808 = 0 → y % 9223372036854775808 = 0 → c = 0 := by
    intro h1 h2
    rw [hcc, ← ha, ← hb]
    have e : ∀ u, u % 9223372036854775808 = 0 → Fl.key u = 0 := fun u hu => by unfold Fl.key Fl.skey; rw [hu]; split <;> rfl
    rw [e x h1, e y h2]
    rfl
  rw [ha] at PX
  rw [hb] at PY
  rw [hc]
  have PX := Lib.hid PX
  have PY := Lib.hid PY
  have HC := Lib.hid hC
  have HW2 := Lib.hid hw2
  have HX := Lib.hid hX
  have hd2 : Below w2.heap.size w2 w2 := Below.refl _ _
  have hsz : X ≤ w2.heap.size := by omega
  clear hC hw2 hX q1 q2 hs2 ha hb hc hx hy nx ny
  have hcase : (∃ k1 : (mx == 0) = true, ∃ k2 : (kx == 0) = true, ∃ k3 : (my == 0) = true, (ky == 0) = true ∧ c = 0) ∨ ((mx == 0) = false) ∨ ((mx == 0) = true ∧ (kx == 0) = false) ∨ ((mx == 0) = true ∧ (kx == 0) = true ∧ (my == 0) = false) ∨ ((mx == 0) = true ∧ (kx == 0) = true ∧ (my == 0) = true ∧ (ky == 0) = false) := by
    rcases zx with ⟨h1, h2, h3⟩ | ⟨h1, h2 | ⟨h2, h3⟩⟩
    · rcases zy with ⟨g1, g2, g3⟩ | ⟨g1, g2 | ⟨g2, g3⟩⟩
      · exact Or.inl ⟨h2, h3, g2, g3, hzz h1 g1⟩
      · exact Or.inr (Or.inr (Or.inr (Or.inl ⟨h2, h3, g2⟩)))
      · exact Or.inr (Or.inr (Or.inr (Or.inr ⟨h2, h3, g2, g3⟩)))
    · exact Or.inr (Or.inl h2)
    · exact Or.inr (Or.inr (Or.inl ⟨h2, h3⟩))
  clear hzz zx zy
  rcases hcase with ⟨k1, k2, k3, k4, k5⟩ | k1 | ⟨k1, k2⟩ | ⟨k1, k2, k3⟩ | ⟨k1, k2, k3, k4⟩
  · have K5 := Lib.hid k5
    clear k5 hcc
    go_enter Tryz.func32, Tryz.ntmps32
    go_upto_region 1 with fail
    rw [HW2.out, HX.out]
    go_wp2_with fail
    go_ret
    exact ⟨by rw [K5.out]; rfl, by rw [HX.out]; exact hb2⟩
  · have HCC := Lib.hid hcc
    clear hcc
    go_enter Tryz.func32, Tryz.ntmps32
    go_upto_region 1 with fail
    rw [HW2.out, HX.out]
    go_upto_region 3 with fail
    go_region_held3 (fun W => W.cell? ⟨X, 0, none⟩ = some (.int .i64 kx) ∧ W.cell? ⟨X, 1, none⟩ = some (.bool sx) ∧ W.cell? ⟨X, 2, none⟩ = some (.int .u64 mx) ∧ W.cell? ⟨X, 3, none⟩ = some (.int .i64 ex) ∧ W.cell? ⟨X + 1, 0, none⟩ = some (.int .i64 ky) ∧ W.cell? ⟨X + 1, 1, none⟩ = some (.bool sy) ∧ W.cell? ⟨X + 1, 2, none⟩ = some (.int .u64 my) ∧ W.cell? ⟨X + 1, 3, none⟩ = some (.int .i64 ey) ∧ Below w2.heap.size w2 W)
      ((refine HC.out _ ?_; first | assumption | exact b_drew hd2 | exact b_drew (by assumption)))
      (first | (with_reducible refine (PX.out _).mono ?_; rintro z w3 ⟨rfl, hb3⟩; have hb3' := f8_trans (by assumption) hb3) | (with_reducible refine (PY.out _).mono ?_; rintro z w4 ⟨rfl, hb4⟩; have hb4' := f8_trans (by assumption) hb4))
    have hbz : Below X w w4 := hb2.trans (hb4'.mono hsz)
    clear hb3 hb3' hb4 hb4' x0 x1 x2 x3 y0 y1 y2 y3
    rcases Int.lt_trichotomy a b with h | h | h
    · have d1 : decide (a < b) = true := decide_eq_true h
      have E := Lib.hid (show c = -1 by rw [HCC.out, if_pos h])
      clear h
      go_wp2_with fail
      go_ret
      exact ⟨by rw [E.out]; rfl, by rw [HX.out]; exact hbz⟩
    · have d1 : decide (a < b) = false := decide_eq_false (by omega)
      have d2 : decide (b < a) = false := decide_eq_false (by omega)
      have E := Lib.hid (show c = 0 by rw [HCC.out, if_neg (by omega), if_neg (by omega)])
      clear h
      go_wp2_with fail
      go_ret
      exact ⟨by rw [E.out]; rfl, by rw [HX.out]; exact hbz⟩
    · have d1 : decide (a < b) = false := decide_eq_false (by omega)
      have d2 : decide (b < a) = true := decide_eq_true h
      have E := Lib.hid (show c = 1 by rw [HCC.out, if_neg (by omega), if_pos h])
      clear h
      go_wp2_with fail
      go_ret
      exact ⟨by rw [E.out]; rfl, by rw [HX.out]; exact hbz⟩
  · have HCC := Lib.hid hcc
    clear hcc
    go_enter Tryz.func32, Tryz.ntmps32
    go_upto_region 1 with fail
    rw [HW2.out, HX.out]
    go_upto_region 3 with fail
    go_region_held3 (fun W => W.cell? ⟨X, 0, none⟩ = some (.int .i64 kx) ∧ W.cell? ⟨X, 1, none⟩ = some (.bool sx) ∧ W.cell? ⟨X, 2, none⟩ = some (.int .u64 mx) ∧ W.cell? ⟨X, 3, none⟩ = some (.int .i64 ex) ∧ W.cell? ⟨X + 1, 0, none⟩ = some (.int .i64 ky) ∧ W.cell? ⟨X + 1, 1, none⟩ = some (.bool sy) ∧ W.cell? ⟨X + 1, 2, none⟩ = some (.int .u64 my) ∧ W.cell? ⟨X + 1, 3, none⟩ = some (.int .i64 ey) ∧ Below w2.heap.size w2 W)
      ((refine HC.out _ ?_; first | assumption | exact b_drew hd2 | exact b_drew (by assumption)))
      (first | (with_reducible refine (PX.out _).mono ?_; rintro z w3 ⟨rfl, hb3⟩; have hb3' := f8_trans (by assumption) hb3) | (with_reducible refine (PY.out _).mono ?_; rintro z w4 ⟨rfl, hb4⟩; have hb4' := f8_trans (by assumption) hb4))
    have hbz : Below X w w4 := hb2.trans (hb4'.mono hsz)
    clear hb3 hb3' hb4 hb4' x0 x1 x2 x3 y0 y1 y2 y3
    rcases Int.lt_trichotomy a b with h | h | h
    · have d1 : decide (a < b) = true := decide_eq_true h
      have E := Lib.hid (show c = -1 by rw [HCC.out, if_pos h])
      clear h
      go_wp2_with fail
      go_ret
      exact ⟨by rw [E.out]; rfl, by rw [HX.out]; exact hbz⟩
    · have d1 : decide (a < b) = false := decide_eq_false (by omega)
      have d2 : decide (b < a) = false := decide_eq_false (by omega)
      have E := Lib.hid (show c = 0 by rw [HCC.out, if_neg (by omega), if_neg (by omega)])
      clear h
      go_wp2_with fail
      go_ret
      exact ⟨by rw [E.out]; rfl, by rw [HX.out]; exact hbz⟩
    · have d1 : decide (a < b) = false := decide_eq_false (by omega)
      have d2 : decide (b < a) = true := decide_eq_true h
      have E := Lib.hid (show c = 1 by rw [HCC.out, if_neg (by omega), if_pos h])
      clear h
      go_wp2_with fail
      go_ret
      exact ⟨by rw [E.out]; rfl, by rw [HX.out]; exact hbz⟩
  · have HCC := Lib.hid hcc
    clear hcc
    go_enter Tryz.func32, Tryz.ntmps32
    go_upto_region 1 with fail
    rw [HW2.out, HX.out]
    go_upto_region 3 with fail
    go_region_held3 (fun W => W.cell? ⟨X, 0, none⟩ = some (.int .i64 kx) ∧ W.cell? ⟨X, 1, none⟩ = some (.bool sx) ∧ W.cell? ⟨X, 2, none⟩ = some (.int .u64 mx) ∧ W.cell? ⟨X, 3, none⟩ = some (.int .i64 ex) ∧ W.cell? ⟨X + 1, 0, none⟩ = some (.int .i64 ky) ∧ W.cell? ⟨X + 1, 1, none⟩ = some (.bool sy) ∧ W.cell? ⟨X + 1, 2, none⟩ = some (.int .u64 my) ∧ W.cell? ⟨X + 1, 3, none⟩ = some (.int .i64 ey) ∧ Below w2.heap.size w2 W)
      ((refine HC.out _ ?_; first | assumption | exact b_drew hd2 | exact b_drew (by assumption)))
      (first | (with_reducible refine (PX.out _).mono ?_; rintro z w3 ⟨rfl, hb3⟩; have hb3' := f8_trans (by assumption) hb3) | (with_reducible refine (PY.out _).mono ?_; rintro z w4 ⟨rfl, hb4⟩; have hb4' := f8_trans (by assumption) hb4))
    have hbz : Below X w w4 := hb2.trans (hb4'.mono hsz)
    clear hb3 hb3' hb4 hb4' x0 x1 x2 x3 y0 y1 y2 y3
    rcases Int.lt_trichotomy a b with h | h | h
    · have d1 : decide (a < b) = true := decide_eq_true h
      have E := Lib.hid (show c = -1 by rw [HCC.out, if_pos h])
      clear h
      go_wp2_with fail
      go_ret
      exact ⟨by rw [E.out]; rfl, by rw [HX.out]; exact hbz⟩
    · have d1 : decide (a < b) = false := decide_eq_false (by omega)
      have d2 : decide (b < a) = false := decide_eq_false (by omega)
      have E := Lib.hid (show c = 0 by rw [HCC.out, if_neg (by omega), if_neg (by omega)])
      clear h
      go_wp2_with fail
      go_ret
      exact ⟨by rw [E.out]; rfl, by rw [HX.out]; exact hbz⟩
    · have d1 : decide (a < b) = false := decide_eq_false (by omega)
      have d2 : decide (b < a) = true := decide_eq_true h
      have E := Lib.hid (show c = 1 by rw [HCC.out, if_neg (by omega), if_pos h])
      clear h
      go_wp2_with fail
      go_ret
      exact ⟨by rw [E.out]; rfl, by rw [HX.out]; exact hbz⟩
  · have HCC := Lib.hid hcc
    clear hcc
    go_enter Tryz.func32, Tryz.ntmps32
    go_upto_region 1 with fail
    rw [HW2.out, HX.out]
    go_upto_region 3 with fail
    go_region_held3 (fun W => W.cell? ⟨X, 0, none⟩ = some (.int .i64 kx) ∧ W.cell? ⟨X, 1, none⟩ = some (.bool sx) ∧ W.cell? ⟨X, 2, none⟩ = some (.int .u64 mx) ∧ W.cell? ⟨X, 3, none⟩ = some (.int .i64 ex) ∧ W.cell? ⟨X + 1, 0, none⟩ = some (.int .i64 ky) ∧ W.cell? ⟨X + 1, 1, none⟩ = some (.bool sy) ∧ W.cell? ⟨X + 1, 2, none⟩ = some (.int .u64 my) ∧ W.cell? ⟨X + 1, 3, none⟩ = some (.int .i64 ey) ∧ Below w2.heap.size w2 W)
      ((refine HC.out _ ?_; first | assumption | exact b_drew hd2 | exact b_drew (by assumption)))
      (first | (with_reducible refine (PX.out _).mono ?_; rintro z w3 ⟨rfl, hb3⟩; have hb3' := f8_trans (by assumption) hb3) | (with_reducible refine (PY.out _).mono ?_; rintro z w4 ⟨rfl, hb4⟩; have hb4' := f8_trans (by assumption) hb4))
    have hbz : Below X w w4 := hb2.trans (hb4'.mono hsz)
    clear hb3 hb3' hb4 hb4' x0 x1 x2 x3 y0 y1 y2 y3
    rcases Int.lt_trichotomy a b with h | h | h
    · have d1 : decide (a < b) = true := decide_eq_true h
      have E := Lib.hid (show c = -1 by rw [HCC.out, if_pos h])
      clear h
      go_wp2_with fail
      go_ret
      exact ⟨by rw [E.out]; rfl, by rw [HX.out]; exact hbz⟩
    · have d1 : decide (a < b) = false := decide_eq_false (by omega)
      have d2 : decide (b < a) = false := decide_eq_false (by omega)
      have E := Lib.hid (show c = 0 by rw [HCC.out, if_neg (by omega), if_neg (by omega)])
      clear h
      go_wp2_with fail
      go_ret
      exact ⟨by rw [E.out]; rfl, by rw [HX.out]; exact hbz⟩
    · have d1 : decide (a < b) = false := decide_eq_false (by omega)
      have d2 : decide (b < a) = true := decide_eq_true h
      have E := Lib.hid (show c = 1 by rw [HCC.out, if_neg (by omega), if_pos h])
      clear h
      go_wp2_with fail
      go_ret
      exact ⟨by rw [E.out]; rfl, by rw [HX.out]; exact hbz⟩
end Go.Proofs.YtjapgpmoojfhnaaGreatDoor
