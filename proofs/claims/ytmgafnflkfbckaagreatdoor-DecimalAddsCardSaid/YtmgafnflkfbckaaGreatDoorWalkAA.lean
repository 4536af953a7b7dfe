/- The reference: padded, align. The reference: align. -/
import Derived.Test.YtmgafnflkfbckaaGreatDoorWalkY
namespace Go.Proofs.YtmgafnflkfbckaaGreatDoor
open Go.RowKit Go.Lib

set_option maxHeartbeats 1000000 in
set_option maxRecDepth 100000 in
theorem padded_any (g : Bool) (A : Option Addr) (n c k : Nat) (l : List Nat) (xe e : Int) (w : World) (hr : Reads w w.heap.size A n (i64s l)) (hk : l = [] ∨ xe - e = (k : Int)) (hn : n ≤ 100000) (hkb : k ≤ 100000) (he : -10000000 ≤ e ∧ e ≤ 10000000) (hxe : -10000000 ≤ xe ∧ xe ≤ 10000000) :
    Calls Tryz.prog 48 #[.agg #[.bool g, .slice A n c, .int .i64 xe], .int .i64 e] w fun x w' => ∃ v, x = .returned v ∧ w'.ownsRow w.heap.size 3 1 v (Dc.padL ⟨g, l, xe⟩ e).length (i64s (Dc.padL ⟨g, l, xe⟩ e)) ∧ Below w.heap.size w w' := by
  obtain ⟨i0, hi, hz0, hz1, hz2⟩ := info_parts info3
  have hln : l.length = n := by have := hr.1; rwa [i64s_len] at this
  obtain ⟨w2, X, hw2, hX, hb2, hX2, hcells⟩ := box_ref g A n c xe w
  have hr2 := hr.on hb2
  obtain ⟨PL, hPL⟩ : ∃ PL, Dc.padL ⟨g, l, xe⟩ e = PL := ⟨_, rfl⟩
  rw [hPL]
  have HLN := Lib.hid hln
  have HC := Lib.hid hcells
  have HW2 := Lib.hid hw2
  have HXX := Lib.hid hX
  have HPL := Lib.hid hPL
  have HK := Lib.hid hk
  clear hcells hw2 hX hr hln hPL hk
  go_enter Tryz.func48, Tryz.ntmps48
  go_upto_block 0 with fail
  rw [HW2.out, HXX.out]
  go_cut [5] (fun v wx => wx.ownsRow w2.heap.size 3 1 v n (i64s l) ∧ Below w2.heap.size w2 wx)
  case first =>
    go_wp2_with fail
    go_loopg [5, 6] n (fun f v i wx => ∃ j : Nat, i = .int .i64 (j : Int) ∧ j ≤ n ∧ n ≤ j + f ∧ wx.ownsRow w2.heap.size 3 1 v j (i64s (l.take j)) ∧ Below w2.heap.size w2 wx)
    case atStart => exact ⟨0, rfl, by omega, by omega, World.ownsRow_nil _ _ _ _, Below.refl _ _⟩
    case round =>
      obtain ⟨j, rfl, hj, hf, hown, hbx⟩ := hrel
      obtain ⟨y0, y1, y2, _⟩ := HC.out _ hbx
      have hj0 : (0 : Int) ≤ (j : Int) := by omega
      by_cases hlt : j < n
      · have hin : (j : Int) < (n : Int) := by omega
        obtain ⟨f, rfl⟩ : ∃ f, gk = f + 1 := ⟨gk - 1, by omega⟩
        obtain ⟨b, off, u, rfl, hbB, hu, hcell⟩ := (hr2.below hbx).at_ (k := j) hlt
        obtain ⟨x, hx, rfl⟩ := i64_at hu
        have HXJ := Lib.hid hx
        clear hx hu
        go_wp2_with (at_builtin; refine wpList_append_own _ rfl _ _ 23 rfl w2.heap.size 3 i0 (.int .i64 0) 1 8 Tryz.underlying23 hi hz0 hz1 hz2 rfl (by decide) _ _ _ rfl (hown.alloc _) ⟨wr.heap.size, 0, none⟩ 1 1 [.int .i64 (x : Int)] rfl rfl ?c1 ?c2 ?c3 ?c4 ?c5 ?_)
        case c1 =>
          intro j u hj
          match j, hj with
          | 0, hj => simp at hj; subst hj; simp [Addr.add]
        case c2 => intro u hu; simp at hu; subst hu; rfl
        case c3 => unfold maxLen; omega
        case c4 => omega
        case c5 => have := hbx.size; simp; omega
        intro v' w3 hown3 hgr3 _
        have hb3 : Below w2.heap.size w2 w3 := (hbx.alloc hbx.size _).grown hgr3 (by have := hbx.size; simp; omega) (fun k hk => (hown.lt k hk).1)
        clear hgr3 y0 y1 y2
        go_wp2
        go_roundg f
        case measure => omega
        case rel =>
          refine ⟨j + 1, by go_num, by omega, by omega, ?_, hb3⟩
          rw [List.take_add_one, HXJ.out, i64s_append]; exact hown3
      · obtain rfl : j = n := by omega
        have hin : ¬ (j : Int) < (j : Int) := by omega
        go_wp2_with fail
        go_meet
        refine ⟨?_, hbx⟩
        have h1 := HLN.out
        rw [List.take_of_length_le (by omega)] at hown; exact hown
  case rest =>
    obtain ⟨hown, hbx⟩ := hcut
    obtain ⟨w3, hw3⟩ : ∃ W, W = wc := ⟨_, rfl⟩
    subst hw3
    have HO := Lib.hid hown
    clear hown
    go_wp2_with fail
    by_cases h0 : n = 0
    · have hl0 : l = [] := List.length_eq_zero_iff.1 (by rw [HLN.out]; exact h0)
      have hP0 : PL = [] := by rw [← HPL.out, Dc.padL, if_pos hl0]
      subst hP0
      subst h0
      have hown := HO.out
      rw [hl0] at hown
      clear hl0
      go_loopg [5, 7] 0 (fun f v i wx => i = .int .i64 e ∧ wx.ownsRow w2.heap.size 3 1 v 0 (i64s []) ∧ Below w2.heap.size w2 wx)
      case atStart => exact ⟨rfl, hown, hbx⟩
      case round =>
        obtain ⟨rfl, hown, hbx⟩ := hrel
        obtain ⟨y0, y1, y2, _⟩ := HC.out _ hbx
        by_cases hee : e < xe
        · go_wp2_with fail
          go_ret
          exact ⟨_, rfl, own_base hown hb2.size, hb2.trans (hbx.mono hb2.size)⟩
        · go_wp2_with fail
          go_ret
          exact ⟨_, rfl, own_base hown hb2.size, hb2.trans (hbx.mono hb2.size)⟩
    · have hne : l ≠ [] := by intro h; have := HLN.out; rw [h] at this; simp at this; omega
      have hk := HK.out.resolve_left hne
      have hP1 : PL = l ++ List.replicate k 0 := by rw [← HPL.out, Dc.padL, if_neg hne]; simp only [hk, Int.toNat_natCast]
      have hPl : PL.length = n + k := by rw [hP1, List.length_append, List.length_replicate, HLN.out]
      have hn0 : (0 : Int) < (n : Int) := by omega
      have HP1 := Lib.hid hP1
      have HPl := Lib.hid hPl
      have HKK := Lib.hid hk
      have HN0 := Lib.hid h0
      have hxe2 : xe = e + (k : Int) := by omega
      clear hne hk hP1 hPl h0
      go_loopg [5, 7] k (fun f v i wx => ∃ (j : Nat) (E : Int), i = .int .i64 E ∧ e + (j : Int) = E ∧ j ≤ k ∧ k ≤ j + f ∧ wx.ownsRow w2.heap.size 3 1 v (n + j) (i64s (l ++ List.replicate j 0)) ∧ Below w2.heap.size w2 wx)
      case atStart => exact ⟨0, e, rfl, by omega, by omega, by omega, by simpa using HO.out, hbx⟩
      case round =>
        obtain ⟨j, E, rfl, hE, hj, hf, hown, hbx⟩ := hrel
        obtain ⟨y0, y1, y2, _⟩ := HC.out _ hbx
        have HEE := Lib.hid hE
        by_cases hlt : j < k
        · have hin : E < xe := by omega
          have hEb : -10000000 ≤ E ∧ E ≤ 10100000 := by omega
          obtain ⟨f, rfl⟩ : ∃ f, gk = f + 1 := ⟨gk - 1, by omega⟩
          clear hE hxe2
          go_wp2_with (at_builtin; refine wpList_append_own _ rfl _ _ 23 rfl w2.heap.size 3 i0 (.int .i64 0) 1 8 Tryz.underlying23 hi hz0 hz1 hz2 rfl (by decide) _ _ _ rfl (hown.alloc _) ⟨wr.heap.size, 0, none⟩ 1 1 [.int .i64 0] rfl rfl ?c1 ?c2 ?c3 ?c4 ?c5 ?_)
          case c1 =>
            intro j u hj
            match j, hj with
            | 0, hj => simp at hj; subst hj; simp [Addr.add]
          case c2 => intro u hu; simp at hu; subst hu; rfl
          case c3 => unfold maxLen; omega
          case c4 => omega
          case c5 => have := hbx.size; simp; omega
          intro v' w4 hown4 hgr4 _
          have hb4 : Below w2.heap.size w2 w4 := (hbx.alloc hbx.size _).grown hgr4 (by have := hbx.size; simp; omega) (fun k hk => (hown.lt k hk).1)
          clear hgr4 y0 y1 y2
          go_wp2
          go_roundg f
          case measure => omega
          case rel =>
            refine ⟨j + 1, E + 1, by go_num, by have := HEE.out; omega, by omega, by omega, ?_, hb4⟩
            rw [← rep_snoc, ← List.append_assoc, i64s_append]; exact hown4
        · obtain rfl : j = k := by omega
          have hin : ¬ E < xe := by omega
          clear hE hxe2
          go_wp2_with fail
          go_ret
          refine ⟨_, rfl, ?_, hb2.trans (hbx.mono hb2.size)⟩
          rw [HPl.out, HP1.out]
          exact own_base hown hb2.size
end Go.Proofs.YtmgafnflkfbckaaGreatDoor

namespace Go.Proofs.YtmgafnflkfbckaaGreatDoor
open Go.RowKit Go.Lib

theorem padL_len (x : Dc.D) (E : Int) : (Dc.padL x E).length ≤ x.c.length + (x.e - E).toNat := by
  rw [Dc.padL]; split
  · simp
  · simp
/-- Two numbers of the reference, boxed. -/
theorem box_tworef (g : Bool) (A : Option Addr) (n c : Nat) (e : Int) (g' : Bool) (A' : Option Addr) (n' c' : Nat) (e' : Int) (w : World) :
    ∃ (w2 : World) (X : Nat), (w.alloc (.cells #[.bool g, .slice A n c, .int .i64 e] 25)).alloc (.cells #[.bool g', .slice A' n' c', .int .i64 e'] 25) = w2 ∧ w.heap.size = X ∧ Below w.heap.size w w2 ∧ w2.heap.size = X + 2 ∧
    ∀ W, Below w2.heap.size w2 W → W.cell? ⟨X, 0, none⟩ = some (.bool g) ∧ W.cell? ⟨X, 1, none⟩ = some (.slice A n c) ∧ W.cell? ⟨X, 2, none⟩ = some (.int .i64 e) ∧
      W.cell? ⟨X + 1, 0, none⟩ = some (.bool g') ∧ W.cell? ⟨X + 1, 1, none⟩ = some (.slice A' n' c') ∧ W.cell? ⟨X + 1, 2, none⟩ = some (.int .i64 e') ∧ Below w2.heap.size w2 W := by
  refine ⟨_, _, rfl, rfl, ((Below.refl _ _).alloc (Nat.le_refl _) _).alloc (by simp) _, by simp, fun W hW => ?_⟩
  have es : (w.alloc (.cells #[.bool g, .slice A n c, .int .i64 e] 25)).heap.size = w.heap.size + 1 := by simp
  have h0 := heap_alloc_new (w.alloc (.cells #[.bool g, .slice A n c, .int .i64 e] 25)) (.cells #[.bool g', .slice A' n' c', .int .i64 e'] 25)
  rw [es] at h0
  have h1 := (hW.block w.heap.size (by simp; omega)).trans ((Below.heap_alloc _ _ _ (by simp)).trans (heap_alloc_new w _))
  have h2 := (hW.block (w.heap.size + 1) (by simp)).trans h0
  exact ⟨at_block h1 0 _ rfl, at_block h1 1 _ rfl, at_block h1 2 _ rfl, at_block h2 0 _ rfl, at_block h2 1 _ rfl, at_block h2 2 _ rfl, hW⟩

set_option maxHeartbeats 1000000 in
set_option maxRecDepth 100000 in
theorem align_any (g : Bool) (A : Option Addr) (n c : Nat) (l : List Nat) (e : Int) (g' : Bool) (A' : Option Addr) (n' c' : Nat) (l' : List Nat) (e' : Int) (E : Int) (w : World)
    (hr : Reads w w.heap.size A n (i64s l)) (hr' : Reads w w.heap.size A' n' (i64s l')) (hn : n ≤ 10000) (hn' : n' ≤ 10000) (he : -10000 ≤ e ∧ e ≤ 10000) (he' : -10000 ≤ e' ∧ e' ≤ 10000) (hE : min e e' = E) :
    Calls Tryz.prog 25 #[.agg #[.bool g, .slice A n c, .int .i64 e], .agg #[.bool g', .slice A' n' c', .int .i64 e']] w fun x w' => ∃ v1 v2, x = .returned (.tuple #[v1, v2, .int .i64 E]) ∧
      w'.ownsRow w.heap.size 3 1 v1 (Dc.alN ⟨g, l, e⟩ ⟨g', l', e'⟩) (i64s (Dc.alX ⟨g, l, e⟩ ⟨g', l', e'⟩)) ∧ w'.ownsRow w.heap.size 3 1 v2 (Dc.alN ⟨g, l, e⟩ ⟨g', l', e'⟩) (i64s (Dc.alY ⟨g, l, e⟩ ⟨g', l', e'⟩)) ∧ Below w.heap.size w w' := by
  have hln : l.length = n := by have := hr.1; rwa [i64s_len] at this
  have hln' : l'.length = n' := by have := hr'.1; rwa [i64s_len] at this
  have hEb : -10000 ≤ E ∧ E ≤ 10000 := by omega
  obtain ⟨w2, X, hw2, hX, hb2, hsz, hcells⟩ := box_tworef g A n c e g' A' n' c' e' w
  have hR := hr.on hb2
  have hR' := hr'.on hb2
  obtain ⟨PX, hPX⟩ : ∃ P, Dc.padL ⟨g, l, e⟩ E = P := ⟨_, rfl⟩
  obtain ⟨PY, hPY⟩ : ∃ P, Dc.padL ⟨g', l', e'⟩ E = P := ⟨_, rfl⟩
  have PA := fun W hW => padded_any g A n c (e - E).toNat l e E W hW (Or.inr (by omega)) (by omega) (by omega) (by omega) (by omega)
  have PB := fun W hW => padded_any g' A' n' c' (e' - E).toNat l' e' E W hW (Or.inr (by omega)) (by omega) (by omega) (by omega) (by omega)
  rw [hPX] at PA
  rw [hPY] at PB
  have hXl : PX.length ≤ 30000 := by
    have := padL_len ⟨g, l, e⟩ E
    rw [hPX] at this
    simp only at this
    omega
  have hYl : PY.length ≤ 30000 := by
    have := padL_len ⟨g', l', e'⟩ E
    rw [hPY] at this
    simp only at this
    omega
  obtain ⟨p, hp⟩ : ∃ p, PX.length = p := ⟨_, rfl⟩
  obtain ⟨q, hq⟩ : ∃ q, PY.length = q := ⟨_, rfl⟩
  rw [hp] at PA hXl
  rw [hq] at PB hYl
  obtain ⟨N, hN⟩ : ∃ N, max p q + 1 = N := ⟨_, rfl⟩
  have hpN : p ≤ N := by omega
  have hqN : q ≤ N := by omega
  have hNb : N ≤ 40000 := by omega
  have hE2 : Dc.alE ⟨g, l, e⟩ ⟨g', l', e'⟩ = E := hE
  have hN2 : Dc.alN ⟨g, l, e⟩ ⟨g', l', e'⟩ = N := by rw [Dc.alN, hE2, hPX, hPY, hp, hq, hN]
  have hX2 : Dc.alX ⟨g, l, e⟩ ⟨g', l', e'⟩ = Dc.frontL PX N := by rw [Dc.alX, hN2, hE2, hPX]
  have hY2 : Dc.alY ⟨g, l, e⟩ ⟨g', l', e'⟩ = Dc.frontL PY N := by rw [Dc.alY, hN2, hE2, hPY]
  rw [hN2, hX2, hY2]
  obtain ⟨p0, p1, p2, q0, q1, q2, hd2⟩ := hcells w2 (Below.refl _ _)
  have HW2 := Lib.hid hw2
  have HXX := Lib.hid hX
  have HC := Lib.hid hcells
  have HR := Lib.hid hR
  have HR' := Lib.hid hR'
  have HPA := Lib.hid PA
  have HPB := Lib.hid PB
  have HE := Lib.hid hE
  have HN := Lib.hid hN
  clear hcells hR hR' hr hr' hw2 hX hPX hPY PA PB hp hq hE2 hN2 hX2 hY2 hN hln hln' hE hsz
  go_enter Tryz.func25, Tryz.ntmps25
  go_upto_region 1 with fail
  rw [HW2.out, HXX.out]
  go_cut [7] (fun t wx => t = .int .i64 E ∧ wx = w2)
  case first =>
    go_wp2_with fail
    go_meet
    exact ⟨congrArg (Value.int .i64) (by have := HE.out; omega), rfl⟩
  case rest =>
    obtain ⟨rfl, hwc⟩ := hcut
    subst hwc
    obtain ⟨w3, hw3⟩ : ∃ W, W = wc := ⟨_, rfl⟩
    subst hw3
    clear p0 p1 p2 q0 q1 q2
    go_upto_region 2 with fail
    go_cut [8, 9] (fun t8 t9 wx => ∃ (A1 A2 : Option Addr) (c1 c2 : Nat), t8 = .slice A1 p c1 ∧ t9 = .slice A2 q c2 ∧ Reads wx wx.heap.size A1 p (i64s PX) ∧ Reads wx wx.heap.size A2 q (i64s PY) ∧ Below w3.heap.size w3 wx)
    case first =>
      go_region_held3 (fun W => W.cell? ⟨X, 0, none⟩ = some (.bool g) ∧ W.cell? ⟨X, 1, none⟩ = some (.slice A n c) ∧ W.cell? ⟨X, 2, none⟩ = some (.int .i64 e) ∧
          W.cell? ⟨X + 1, 0, none⟩ = some (.bool g') ∧ W.cell? ⟨X + 1, 1, none⟩ = some (.slice A' n' c') ∧ W.cell? ⟨X + 1, 2, none⟩ = some (.int .i64 e') ∧ Below w3.heap.size w3 W)
        ((refine HC.out _ ?_; first | assumption | exact (Below.refl _ _).drew))
        (first | (with_reducible refine (HPA.out _ (HR.out.on (p6 (by assumption)))).mono ?_; rintro x w7 ⟨v7, rfl, ho7, hb7⟩; have hb7' := p6_trans (by assumption) hb7) | (with_reducible refine (HPB.out _ (HR'.out.on (p6 (by assumption)))).mono ?_; rintro x w8 ⟨v8, rfl, ho8, hb8⟩; have hb8' := p6_trans (by assumption) hb8))
      all_goals
        obtain ⟨A7, c7, rfl, _, hr7⟩ := own_slice ho7
        obtain ⟨A8, c8, rfl, _, hr8⟩ := own_slice ho8
        go_wp2_with fail
        go_meet
        exact ⟨A7, A8, c7, c8, rfl, rfl, hr7.on hb8, hr8, hb8'⟩
    case rest =>
      obtain ⟨A1, A2, c1, c2, rfl, rfl, hr1, hr2, hb4⟩ := hcut
      obtain ⟨w4, hw4⟩ : ∃ W, W = wc := ⟨_, rfl⟩
      subst hw4
      have HR1 := Lib.hid hr1
      have HR2 := Lib.hid hr2
      clear hr1 hr2
      go_upto_region 3 with fail
      go_cut [10] (fun t wx => t = .int .i64 (N : Int) ∧ wx = w4)
      case first =>
        go_wp2_with fail
        go_meet
        exact ⟨congrArg (Value.int .i64) (by have := HN.out; omega), rfl⟩
      case rest =>
        obtain ⟨rfl, hwc⟩ := hcut
        subst hwc
        obtain ⟨w4, hw4⟩ : ∃ W, W = wc := ⟨_, rfl⟩
        subst hw4
        have F1 := Lib.hid (fun W hW => front_any A1 p c1 N PX W hW hpN (by omega))
        have F2 := Lib.hid (fun W hW => front_any A2 q c2 N PY W hW hqN (by omega))
        go_wp2_with fail
        refine (F1.out _ HR1.out).mono ?_
        rintro x w5 ⟨v5, rfl, ho5, hb5⟩
        obtain ⟨A5, c5, rfl, _, _⟩ := own_slice ho5
        have HO5 := Lib.hid ho5
        clear ho5
        go_wp2_with fail
        refine (F2.out _ (HR2.out.on hb5)).mono ?_
        rintro x w6 ⟨v6, rfl, ho6, hb6⟩
        obtain ⟨A6, c6, rfl, _, _⟩ := own_slice ho6
        have hb24 : Below w.heap.size w w4 := hb2.trans (hb4.mono hb2.size)
        have hb25 := hb24.trans (hb5.mono hb24.size)
        go_wp2_with fail
        refine bodyPost_ret (v := .tuple #[.slice A5 N c5, .slice A6 N c6, .int .i64 E]) (by simp [results, Tryz.results25, go_sem]) rfl ?_
        exact ⟨_, _, rfl, own_base (own_below HO5.out hb6) hb24.size, own_base ho6 hb25.size, hb25.trans (hb6.mono hb25.size)⟩
end Go.Proofs.YtmgafnflkfbckaaGreatDoor
