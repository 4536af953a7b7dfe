/- The reference: align. -/
import Derived.Test.YtmgafnflkfbckaaDoorWalkZ
namespace Go.Proofs.YtmgafnflkfbckaaDoor
open Go.RowKit Go.Lib

theorem padL_len (x : Dc.D) (E : Int) : (Dc.padL x E).length ≤ x.c.length + (x.e - E).toNat := by
  rw [Dc.padL]; split
  · simp
  · simp
/-- Two numbers of the reference, boxed. -/
theorem box_tworef (g : Bool) (A : Option Addr) (n c : Nat) (e : Int) (g' : Bool) (A' : Option Addr) (n' c' : Nat) (e' : Int) (w : World) :
    ∃ (w2 : World) (X : Nat), (w.alloc (.cells #[.bool g, .slice A n c, .int .i64 e] 25)).alloc (.cells #[.bool g', .slice A' n' c', .int .i64 e'] 25) = w2 ∧ w.heap.size = X ∧ Below w.heap.size w w2 ∧ w2.heap.size = X + 2 ∧
    ∀ W, Below w2.heap.size w2 W → W.cell? ⟨X, 0, none⟩ = some (.bool g) ∧ W.cell? ⟨X, 1, none⟩ = some (.slice A n c) ∧ W.cell? ⟨X, 2, none⟩ = some (.int .i64 e) ∧
      W.cell? ⟨X + 1, 0, none⟩ = some (.bool g') ∧ W.cell? ⟨X + 1, 1, none⟩ = some (.slice A' n' c') ∧ W.cell? ⟨X + 1, 2, none⟩ = some (.int .i64 e') ∧ Below w2.heap.size w2 W := by
  refine ⟨_, _, rfl, rfl, ((Below.refl _ _).alloc (Nat.le_refl _) _).alloc (by simp) _, by simp, fun W hW => ?_⟩
  have es : (w.alloc (.cells #[.bool g, .slice A n c, .int .i64 e] 25)).heap.size = w.heap.size + 1 := by simp
  have h0 := heap_alloc_new (w.alloc (.cells #[.bool g, .slice A n c, .int .i64 e] 25)) (.cells #[.bool g', .slice A' n' c', .int .i64 e'] 25)
  rw [es] at h0
  have h1 := (hW.block w.heap.size (by simp; omega)).trans ((Below.heap_alloc _ _ _ (by simp)).trans (heap_alloc_new w _))
  have h2 := (hW.block (w.heap.size + 1) (by simp)).trans h0
  exact ⟨at_block h1 0 _ rfl, at_block h1 1 _ rfl, at_block h1 2 _ rfl, at_block h2 0 _ rfl, at_block h2 1 _ rfl, at_block h2 2 _ rfl, hW⟩

set_option maxHeartbeats 1000000 in
set_option maxRecDepth 100000 in
theorem align_any (g : Bool) (A : Option Addr) (n c : Nat) (l : List Nat) (e : Int) (g' : Bool) (A' : Option Addr) (n' c' : Nat) (l' : List Nat) (e' : Int) (E : Int) (w : World)
    (hr : Reads w w.heap.size A n (i64s l)) (hr' : Reads w w.heap.size A' n' (i64s l')) (hn : n ≤ 10000) (hn' : n' ≤ 10000) (he : -10000 ≤ e ∧ e ≤ 10000) (he' : -10000 ≤ e' ∧ e' ≤ 10000) (hE : min e e' = E) :
    Calls Tryd.prog 60 #[.agg #[.bool g, .slice A n c, .int .i64 e], .agg #[.bool g', .slice A' n' c', .int .i64 e']] w fun x w' => ∃ v1 v2, x = .returned (.tuple #[v1, v2, .int .i64 E]) ∧
      w'.ownsRow w.heap.size 3 1 v1 (Dc.alN ⟨g, l, e⟩ ⟨g', l', e'⟩) (i64s (Dc.alX ⟨g, l, e⟩ ⟨g', l', e'⟩)) ∧ w'.ownsRow w.heap.size 3 1 v2 (Dc.alN ⟨g, l, e⟩ ⟨g', l', e'⟩) (i64s (Dc.alY ⟨g, l, e⟩ ⟨g', l', e'⟩)) ∧ Below w.heap.size w w' := by
  have hln : l.length = n := by have := hr.1; rwa [i64s_len] at this
  have hln' : l'.length = n' := by have := hr'.1; rwa [i64s_len] at this
  have hEb : -10000 ≤ E ∧ E ≤ 10000 := by omega
  obtain ⟨w2, X, hw2, hX, hb2, hsz, hcells⟩ := box_tworef g A n c e g' A' n' c' e' w
  have hR := hr.on hb2
  have hR' := hr'.on hb2
  obtain ⟨PX, hPX⟩ : ∃ P, Dc.padL ⟨g, l, e⟩ E = P := ⟨_, rfl⟩
  obtain ⟨PY, hPY⟩ : ∃ P, Dc.padL ⟨g', l', e'⟩ E = P := ⟨_, rfl⟩
  have PA := fun W hW => padded_any g A n c (e - E).toNat l e E W hW (Or.inr (by omega)) (by omega) (by omega) (by omega) (by omega)
  have PB := fun W hW => padded_any g' A' n' c' (e' - E).toNat l' e' E W hW (Or.inr (by omega)) (by omega) (by omega) (by omega) (by omega)
  rw [hPX] at PA
  rw [hPY] at PB
  have hXl : PX.length ≤ 30000 := by
    have := padL_len ⟨g, l, e⟩ E
    rw [hPX] at this
    simp only at this
    omega
  have hYl : PY.length ≤ 30000 := by
    have := padL_len ⟨g', l', e'⟩ E
    rw [hPY] at this
    simp only at this
    omega
  obtain ⟨p, hp⟩ : ∃ p, PX.length = p := ⟨_, rfl⟩
  obtain ⟨q, hq⟩ : ∃ q, PY.length = q := ⟨_, rfl⟩
  rw [hp] at PA hXl
  rw [hq] at PB hYl
  obtain ⟨N, hN⟩ : ∃ N, max p q + 1 = N := ⟨_, rfl⟩
  have hpN : p ≤ N := by omega
  have hqN : q ≤ N := by omega
  have hNb : N ≤ 40000 := by omega
  have hE2 : Dc.alE ⟨g, l, e⟩ ⟨g', l', e'⟩ = E := hE
  have hN2 : Dc.alN ⟨g, l, e⟩ ⟨g', l', e'⟩ = N := by rw [Dc.alN, hE2, hPX, hPY, hp, hq, hN]
  have hX2 : Dc.alX ⟨g, l, e⟩ ⟨g', l', e'⟩ = Dc.frontL PX N := by rw [Dc.alX, hN2, hE2, hPX]
  have hY2 : Dc.alY ⟨g, l, e⟩ ⟨g', l', e'⟩ = Dc.frontL PY N := by rw [Dc.alY, hN2, hE2, hPY]
  rw [hN2, hX2, hY2]
  obtain ⟨p0, p1, p2, q0, q1, q2, hd2⟩ := hcells w2 (Below.refl _ _)
  have HW2 := Lib.hid hw2
  have HXX := Lib.hid hX
  have HC := Lib.hid hcells
  have HR := Lib.hid hR
  have HR' := Lib.hid hR'
  have HPA := Lib.hid PA
  have HPB := Lib.hid PB
  have HE := Lib.hid hE
  have HN := Lib.hid hN
  clear hcells hR hR' hr hr' hw2 hX hPX hPY PA PB hp hq hE2 hN2 hX2 hY2 hN hln hln' hE hsz
  go_enter Tryd.func60, Tryd.ntmps60
  go_upto_region 1 with fail
  rw [HW2.out, HXX.out]
  go_cut [7] (fun t wx => t = .int .i64 E ∧ wx = w2)
  case first =>
    go_wp2_with fail
    go_meet
    exact ⟨congrArg (Value.int .i64) (by have := HE.out; omega), rfl⟩
  case rest =>
    obtain ⟨rfl, hwc⟩ := hcut
    subst hwc
    obtain ⟨w3, hw3⟩ : ∃ W, W = wc := ⟨_, rfl⟩
    subst hw3
    clear p0 p1 p2 q0 q1 q2
    go_upto_region 2 with fail
    go_cut [8, 9] (fun t8 t9 wx => ∃ (A1 A2 : Option Addr) (c1 c2 : Nat), t8 = .slice A1 p c1 ∧ t9 = .slice A2 q c2 ∧ Reads wx wx.heap.size A1 p (i64s PX) ∧ Reads wx wx.heap.size A2 q (i64s PY) ∧ Below w3.heap.size w3 wx)
    case first =>
      go_region_held3 (fun W => W.cell? ⟨X, 0, none⟩ = some (.bool g) ∧ W.cell? ⟨X, 1, none⟩ = some (.slice A n c) ∧ W.cell? ⟨X, 2, none⟩ = some (.int .i64 e) ∧
          W.cell? ⟨X + 1, 0, none⟩ = some (.bool g') ∧ W.cell? ⟨X + 1, 1, none⟩ = some (.slice A' n' c') ∧ W.cell? ⟨X + 1, 2, none⟩ = some (.int .i64 e') ∧ Below w3.heap.size w3 W)
        ((refine HC.out _ ?_; first | assumption | exact (Below.refl _ _).drew))
        (first | (with_reducible refine (HPA.out _ (HR.out.on (p6 (by assumption)))).mono ?_; rintro x w7 ⟨v7, rfl, ho7, hb7⟩; have hb7' := p6_trans (by assumption) hb7) | (with_reducible refine (HPB.out _ (HR'.out.on (p6 (by assumption)))).mono ?_; rintro x w8 ⟨v8, rfl, ho8, hb8⟩; have hb8' := p6_trans (by assumption) hb8))
      all_goals
        obtain ⟨A7, c7, rfl, _, hr7⟩ := own_slice ho7
        obtain ⟨A8, c8, rfl, _, hr8⟩ := own_slice ho8
        go_wp2_with fail
        go_meet
        exact ⟨A7, A8, c7, c8, rfl, rfl, hr7.on hb8, hr8, hb8'⟩
    case rest =>
      obtain ⟨A1, A2, c1, c2, rfl, rfl, hr1, hr2, hb4⟩ := hcut
      obtain ⟨w4, hw4⟩ : ∃ W, W = wc := ⟨_, rfl⟩
      subst hw4
      have HR1 := Lib.hid hr1
      have HR2 := Lib.hid hr2
      clear hr1 hr2
      go_upto_region 3 with fail
      go_cut [10] (fun t wx => t = .int .i64 (N : Int) ∧ wx = w4)
      case first =>
        go_wp2_with fail
        go_meet
        exact ⟨congrArg (Value.int .i64) (by have := HN.out; omega), rfl⟩
      case rest =>
        obtain ⟨rfl, hwc⟩ := hcut
        subst hwc
        obtain ⟨w4, hw4⟩ : ∃ W, W = wc := ⟨_, rfl⟩
        subst hw4
        have F1 := Lib.hid (fun W hW => front_any A1 p c1 N PX W hW hpN (by omega))
        have F2 := Lib.hid (fun W hW => front_any A2 q c2 N PY W hW hqN (by omega))
        go_wp2_with fail
        refine (F1.out _ HR1.out).mono ?_
        rintro x w5 ⟨v5, rfl, ho5, hb5⟩
        obtain ⟨A5, c5, rfl, _, _⟩ := own_slice ho5
        have HO5 := Lib.hid ho5
        clear ho5
        go_wp2_with fail
        refine (F2.out _ (HR2.out.on hb5)).mono ?_
        rintro x w6 ⟨v6, rfl, ho6, hb6⟩
        obtain ⟨A6, c6, rfl, _, _⟩ := own_slice ho6
        have hb24 : Below w.heap.size w w4 := hb2.trans (hb4.mono hb2.size)
        have hb25 := hb24.trans (hb5.mono hb24.size)
        go_wp2_with fail
        refine bodyPost_ret (v := .tuple #[.slice A5 N c5, .slice A6 N c6, .int .i64 E]) (by simp [results, Tryd.results60, go_sem]) rfl ?_
        exact ⟨_, _, rfl, own_base (own_below HO5.out hb6) hb24.size, own_base ho6 hb25.size, hb25.trans (hb6.mono hb25.size)⟩
end Go.Proofs.YtmgafnflkfbckaaDoor
