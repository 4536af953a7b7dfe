/- DecimalLaws: the law's walk. -/
import Derived.Test.YtmgafnflkfbckaaDoorPlain12
import Derived.Test.YtmgafnflkfbckaaDoorWalkH
import Derived.Test.YtmgafnflkfbckaaDoorLaw9
import Derived.Deep.RegionHeld3
namespace Go.Proofs.YtmgafnflkfbckaaDoor
open Go.RowKit Go.Lib

theorem box_texts (a b c : ByteArray) (t : TypeId) (w : World) :
    ∃ (w2 : World) (X : Nat), w.alloc (.cells #[.string a, .string b, .string c] t) = w2 ∧ w.heap.size = X ∧ Below X w w2 ∧ w2.heap.size = X + 1 ∧
    ∀ W, Below w2.heap.size w2 W → W.cell? ⟨X, 0, none⟩ = some (.string a) ∧ W.cell? ⟨X, 1, none⟩ = some (.string b) ∧ W.cell? ⟨X, 2, none⟩ = some (.string c) ∧ Below w2.heap.size w2 W := by
  obtain ⟨X, hX⟩ : ∃ X, w.heap.size = X := ⟨_, rfl⟩
  obtain ⟨w2, hw2⟩ : ∃ W, w.alloc (.cells #[.string a, .string b, .string c] t) = W := ⟨_, rfl⟩
  have sa : w2.heap.size = X + 1 := by rw [← hw2, ← hX]; simp
  have ba : w2.heap[X]? = some (.cells #[.string a, .string b, .string c] t (0, 0)) := by rw [← hw2, ← hX]; exact heap_alloc_new w _
  refine ⟨w2, X, hw2, hX, by rw [← hw2, ← hX]; exact (Below.refl _ _).alloc (Nat.le_refl _) _, sa, fun W hW => ?_⟩
  have h1 := (hW.block X (by omega)).trans ba
  exact ⟨at_block h1 0 _ rfl, at_block h1 1 _ rfl, at_block h1 2 _ rfl, hW⟩
theorem t_trans {w2 W w' : World} (h : Below w2.heap.size w2 W) (h' : Below W.heap.size W w') : Below w2.heap.size w2 w' := h.trans (h'.mono h.size)
theorem q3 {A B C : Prop} {a W : World} (h : A ∧ B ∧ C ∧ Below a.heap.size a W) : Below a.heap.size a W := h.2.2.2
def okT (s : ByteArray) : Prop := s.size ≤ 200 ∧ (Dc.readP s.data.toList).isSome = true
theorem valid_true {s : ByteArray} (h : okT s) (W : World) (hW : Laid W) : Calls Tryd.prog 27 #[.string s] W fun x w' => x = .returned (.bool true) ∧ Below W.heap.size W w' := by
  have := valid_any s W (by have := h.1; omega) hW
  rw [h.2] at this
  exact this
theorem valid_false {s : ByteArray} (h : s.size ≤ 200) (h2 : (Dc.readP s.data.toList).isSome = false) (W : World) (hW : Laid W) : Calls Tryd.prog 27 #[.string s] W fun x w' => x = .returned (.bool false) ∧ Below W.heap.size W w' := by
  have := valid_any s W (by omega) hW
  rw [h2] at this
  exact this
theorem add_n {s t b : ByteArray} {l : List UInt8} {e : Nat} (hs : s.size ≤ 500) (ht : t.size ≤ 500) (h : Dc.addS s.data.toList t.data.toList = (l, e)) (hb : (⟨l.toArray⟩ : ByteArray) = b) (W : World) (hW : Laid W) : Calls Tryd.prog 30 #[.string s, .string t] W fun x w' => x = .returned (.tuple #[.string b, .int .i64 (e : Int)]) ∧ Below W.heap.size W w' := by
  have := add_2 s t W (by omega) (by omega) hW
  rw [h, val2, hb] at this
  exact this
theorem mul_n {s t b : ByteArray} {l : List UInt8} {e : Nat} (hs : s.size ≤ 500) (ht : t.size ≤ 500) (h : Dc.mulS s.data.toList t.data.toList = (l, e)) (hb : (⟨l.toArray⟩ : ByteArray) = b) (W : World) (hW : Laid W) : Calls Tryd.prog 31 #[.string s, .string t] W fun x w' => x = .returned (.tuple #[.string b, .int .i64 (e : Int)]) ∧ Below W.heap.size W w' := by
  have := mul_2 s t W (by omega) (by omega) hW
  rw [h, val2, hb] at this
  exact this
theorem cmp_n {s t : ByteArray} {k : Int} (hs : s.size ≤ 500) (ht : t.size ≤ 500) (h : Dc.cmpS s.data.toList t.data.toList = k) (W : World) (hW : Laid W) : Calls Tryd.prog 34 #[.string s, .string t] W fun x w' => x = .returned (.int .i64 k) ∧ Below W.heap.size W w' := by
  have := cmp_any s t W (by omega) (by omega) hW
  rw [h] at this
  exact this

set_option maxHeartbeats 4000000 in
set_option maxRecDepth 100000 in
theorem law8 (s0 s1 s2 : ByteArray) (w : World) (hL : Laid w) : Calls Tryd.prog 8 #[.agg #[.string s0, .string s1, .string s2]] w fun x w' => x = .returned (.bool true) ∧ Below w.heap.size w w' := by
  obtain ⟨w2, X, hw2, hX, hb2, hsz, hcells⟩ := box_texts s0 s1 s2 53 w
  have hb2' : Below w.heap.size w w2 := by rw [hX]; exact hb2
  have HW2 := Lib.hid hw2
  have HX := Lib.hid hX
  have HC := Lib.hid hcells
  have HB := Lib.hid hb2'
  have HL := Lib.hid (hL.on hb2')
  have AW := Lib.hid (awake_any w2 (hL.on hb2'))
  have HS := Lib.hid hsz
  clear hw2 hX hcells hb2 hb2' hL hsz
  go_enter Tryd.func8, Tryd.ntmps8
  go_upto_region 1 with fail
  rw [HW2.out, HX.out]
  go_wp2_with fail
  refine (AW.out).mono ?_
  rintro x w3 ⟨rfl, hb3⟩
  go_upto_block 0 with fail

  go_cut [3] (fun _ wx => okT s0 ∧ okT s1 ∧ okT s2 ∧ Below w2.heap.size w2 wx)
  case first =>
    go_wp2_with fail
    go_loopg [3] 3 (fun f i wx => ∃ n : Nat, i = .int .i64 (n : Int) ∧ n + f = 3 ∧ (0 < n → okT s0) ∧ (1 < n → okT s1) ∧ (2 < n → okT s2) ∧ Below w2.heap.size w2 wx)
    case atStart => exact ⟨0, rfl, rfl, fun h => by omega, fun h => by omega, fun h => by omega, hb3⟩
    case round =>
      obtain ⟨n, rfl, hn, h0, h1, h2, hbx⟩ := hrel
      obtain ⟨c0, c1, c2, _⟩ := HC.out _ hbx
      have hcase : n = 0 ∨ n = 1 ∨ n = 2 ∨ n = 3 := by omega
      have H0 := Lib.hid h0
      have H1 := Lib.hid h1
      have H2 := Lib.hid h2
      clear h0 h1 h2
      rcases hcase with rfl | rfl | rfl | rfl
      · obtain ⟨f, rfl⟩ : ∃ f, gk = f + 1 := ⟨gk - 1, by omega⟩
        by_cases hs : 200 < s0.size
        · have hi : (200 : Int) < (s0.size : Int) := by omega
          go_wp2_with fail
          go_ret
          exact ⟨rfl, HB.out.trans (hbx.mono HB.out.size)⟩
        · have hi : ¬ (200 : Int) < (s0.size : Int) := by omega
          by_cases hv : (Dc.readP s0.data.toList).isSome = true
          · have hok : okT s0 := ⟨by omega, hv⟩
            have VA := Lib.hid (fun W hW => valid_true hok W hW)
            have HV := Lib.hid hok
            clear hv hok
            go_wp2_with fail
            refine (VA.out _ (HL.out.on hbx)).mono ?_
            rintro x w4 ⟨rfl, hb4⟩
            go_wp2_with fail
            have hok := HV.out
            go_roundg f
            case measure => omega
            case rel => exact ⟨1, rfl, by omega, fun _ => hok, fun h => by omega, fun h => by omega, t_trans hbx hb4⟩
          · have VA := Lib.hid (fun W hW => valid_false (s := s0) (by omega) (by simpa using hv) W hW)
            clear hv
            go_wp2_with fail
            refine (VA.out _ (HL.out.on hbx)).mono ?_
            rintro x w4 ⟨rfl, hb4⟩
            go_wp2_with fail
            go_ret
            exact ⟨rfl, HB.out.trans ((t_trans hbx hb4).mono HB.out.size)⟩
      · obtain ⟨f, rfl⟩ : ∃ f, gk = f + 1 := ⟨gk - 1, by omega⟩
        by_cases hs : 200 < s1.size
        · have hi : (200 : Int) < (s1.size : Int) := by omega
          go_wp2_with fail
          go_ret
          exact ⟨rfl, HB.out.trans (hbx.mono HB.out.size)⟩
        · have hi : ¬ (200 : Int) < (s1.size : Int) := by omega
          by_cases hv : (Dc.readP s1.data.toList).isSome = true
          · have hok : okT s1 := ⟨by omega, hv⟩
            have VA := Lib.hid (fun W hW => valid_true hok W hW)
            have HV := Lib.hid hok
            clear hv hok
            go_wp2_with fail
            refine (VA.out _ (HL.out.on hbx)).mono ?_
            rintro x w4 ⟨rfl, hb4⟩
            go_wp2_with fail
            have hok := HV.out
            go_roundg f
            case measure => omega
            case rel => exact ⟨2, rfl, by omega, fun _ => H0.out (by omega), fun _ => hok, fun h => by omega, t_trans hbx hb4⟩
          · have VA := Lib.hid (fun W hW => valid_false (s := s1) (by omega) (by simpa using hv) W hW)
            clear hv
            go_wp2_with fail
            refine (VA.out _ (HL.out.on hbx)).mono ?_
            rintro x w4 ⟨rfl, hb4⟩
            go_wp2_with fail
            go_ret
            exact ⟨rfl, HB.out.trans ((t_trans hbx hb4).mono HB.out.size)⟩
      · obtain ⟨f, rfl⟩ : ∃ f, gk = f + 1 := ⟨gk - 1, by omega⟩
        by_cases hs : 200 < s2.size
        · have hi : (200 : Int) < (s2.size : Int) := by omega
          go_wp2_with fail
          go_ret
          exact ⟨rfl, HB.out.trans (hbx.mono HB.out.size)⟩
        · have hi : ¬ (200 : Int) < (s2.size : Int) := by omega
          by_cases hv : (Dc.readP s2.data.toList).isSome = true
          · have hok : okT s2 := ⟨by omega, hv⟩
            have VA := Lib.hid (fun W hW => valid_true hok W hW)
            have HV := Lib.hid hok
            clear hv hok
            go_wp2_with fail
            refine (VA.out _ (HL.out.on hbx)).mono ?_
            rintro x w4 ⟨rfl, hb4⟩
            go_wp2_with fail
            have hok := HV.out
            go_roundg f
            case measure => omega
            case rel => exact ⟨3, rfl, by omega, fun _ => H0.out (by omega), fun _ => H1.out (by omega), fun _ => hok, t_trans hbx hb4⟩
          · have VA := Lib.hid (fun W hW => valid_false (s := s2) (by omega) (by simpa using hv) W hW)
            clear hv
            go_wp2_with fail
            refine (VA.out _ (HL.out.on hbx)).mono ?_
            rintro x w4 ⟨rfl, hb4⟩
            go_wp2_with fail
            go_ret
            exact ⟨rfl, HB.out.trans ((t_trans hbx hb4).mono HB.out.size)⟩
      · go_wp2_with fail
        go_meet
        exact ⟨H0.out (by omega), H1.out (by omega), H2.out (by omega), hbx⟩
  case rest =>
    obtain ⟨k0, k1, k2, hb4⟩ := hcut
    obtain ⟨w4, hw4⟩ : ∃ W, W = wc := ⟨_, rfl⟩
    subst hw4
    obtain ⟨x, hx⟩ := Option.isSome_iff_exists.1 k0.2
    obtain ⟨y, hy⟩ := Option.isSome_iff_exists.1 k1.2
    obtain ⟨z, hz⟩ := Option.isSome_iff_exists.1 k2.2
    obtain ⟨XY, e1, YZ, e3, XZ, e4, k, g1, g2, g3, g4, g5, g6, g7, g8, g9, l1, l2, l3, more⟩ := Dc.three_laws hx hy hz
    obtain ⟨bXY, b1, b1', b1s⟩ := bytes_of l1
    obtain ⟨bYZ, b2, b2', b2s⟩ := bytes_of l2
    obtain ⟨bXZ, b3, b3', b3s⟩ := bytes_of l3
    have t0 : s0.size ≤ 500 := by have := k0.1; omega
    have t1 : s1.size ≤ 500 := by have := k1.1; omega
    have t2 : s2.size ≤ 500 := by have := k2.1; omega
    have hst : (s0.toList == s1.toList) = (k == 0) := by
      by_cases h : k = 0
      · have e : s0 = s1 := by
          have := g9.1 h
          rwa [Array.toList_inj, ← ByteArray.ext_iff] at this
        rw [e, h]; simp
      · have : s0.toList ≠ s1.toList := fun e => h (g9.2 (by rw [← Lib.toList_data, ← Lib.toList_data, e]))
        rw [beq_eq_false_iff_ne.2 h]; exact beq_eq_false_iff_ne.2 this
    rw [← b1'] at more
    rw [← b2'] at more
    rw [← b3'] at more
    have A1 := fun W hW => add_n t0 t1 g1 b1 W hW
    have A2 := fun W hW => add_n t1 t0 g2 b1 W hW
    have A3 := fun W hW => add_n t1 t2 g3 b2 W hW
    have A4 := fun W hW => add_n t0 t2 g4 b3 W hW
    obtain ⟨E1, hE1⟩ : ∃ E : Int, (e1 : Int) = E := ⟨_, rfl⟩
    obtain ⟨E3, hE3⟩ : ∃ E : Int, (e3 : Int) = E := ⟨_, rfl⟩
    obtain ⟨E4, hE4⟩ : ∃ E : Int, (e4 : Int) = E := ⟨_, rfl⟩
    rw [hE1] at A1 A2
    rw [hE3] at A3
    rw [hE4] at A4
    have more := fun (q1 : E1 = 0) (q3 : E3 = 0) (q4 : E4 = 0) => more (by omega) (by omega) (by omega)
    have A1 := Lib.hid A1
    have A2 := Lib.hid A2
    have A3 := Lib.hid A3
    have A4 := Lib.hid A4
    obtain ⟨k', hk'⟩ : ∃ k', -k = k' := ⟨_, rfl⟩
    have hkw : IntKind.i64.wrap (-k') = k := by rw [← hk', Int.neg_neg]; exact IntWalk.i64_in _ (by omega)
    rw [hk'] at g6
    have C1 := Lib.hid (fun W hW => cmp_n t0 t1 g5 W hW)
    have C2 := Lib.hid (fun W hW => cmp_n t1 t0 g6 W hW)
    have MORE := Lib.hid more
    have HT := Lib.hid (And.intro t0 (And.intro t1 (And.intro t2 (And.intro b1s (And.intro b2s b3s)))))
    have C5 := Lib.hid g5
    clear k0 k1 k2 hx hy hz more g1 g2 g3 g4 g5 g6 g7 g8 g9 l1 l2 l3 t0 t1 t2 b1 b2 b3 b1' b2' b3' b1s b2s b3s hk' hE1 hE3 hE4
    obtain ⟨c0, c1, c2, _⟩ := HC.out _ hb4
    go_upto_region 8 with fail
    go_wp2_with fail
    refine (A1.out _ (HL.out.on hb4)).mono ?_
    rintro x w5 ⟨rfl, hb5⟩
    have hb5 := t_trans hb4 hb5
    clear c0 c1 c2
    obtain ⟨c0, c1, c2, _⟩ := HC.out _ hb5
    go_wp2_with fail
    refine (A2.out _ (HL.out.on hb5)).mono ?_
    rintro x w6 ⟨rfl, hb6⟩
    have hb6 := t_trans hb5 hb6
    clear c0 c1 c2
    obtain ⟨c0, c1, c2, _⟩ := HC.out _ hb6
    go_wp2_with fail
    refine (A3.out _ (HL.out.on hb6)).mono ?_
    rintro x w7 ⟨rfl, hb7⟩
    have hb7 := t_trans hb6 hb7
    clear c0 c1 c2
    obtain ⟨c0, c1, c2, _⟩ := HC.out _ hb7
    go_wp2_with fail
    refine (A4.out _ (HL.out.on hb7)).mono ?_
    rintro x w8 ⟨rfl, hb8⟩
    have hb8 := t_trans hb7 hb8
    clear c0 c1 c2
    obtain ⟨c0, c1, c2, _⟩ := HC.out _ hb8
    go_upto_region 12 with fail
    go_cut [111] from 76 to 112 (fun t wx => t = .bool false ∧ Below w2.heap.size w2 wx)
    case first =>
      go_region_held3 (fun W => W.cell? ⟨X, 0, none⟩ = some (.string s0) ∧ W.cell? ⟨X, 1, none⟩ = some (.string s1) ∧ W.cell? ⟨X, 2, none⟩ = some (.string s2) ∧ Below w2.heap.size w2 W)
        ((refine HC.out _ ?_; first | assumption | exact hb8.drew))
        (first | (with_reducible refine (C1.out _ ?_).mono ?_; exact HL.out.on (q3 (by assumption)); rintro x w9 ⟨rfl, hb9⟩; have hb9' := n3_trans (by assumption) hb9) | (with_reducible refine (C2.out _ ?_).mono ?_; exact HL.out.on (q3 (by assumption)); rintro x w10 ⟨rfl, hb10⟩; have hb10' := n3_trans (by assumption) hb10))
      all_goals
        go_wp2_with fail
        go_meet
        refine ⟨?_, (by first | exact hb9' | exact hb10')⟩
        rfl
    case rest =>
      obtain ⟨rfl, hb9⟩ := hcut
      obtain ⟨w9, hw9⟩ : ∃ W, W = wc := ⟨_, rfl⟩
      subst hw9
      clear c0 c1 c2
      obtain ⟨c0, c1, c2, _⟩ := HC.out _ hb9
      have hcase : (¬ E1 = 0) ∨ (E1 = 0 ∧ ¬ E3 = 0) ∨ (E1 = 0 ∧ E3 = 0 ∧ ¬ E4 = 0) ∨ (E1 = 0 ∧ E3 = 0 ∧ E4 = 0) := by omega
      rcases hcase with q1 | ⟨q1, q3⟩ | ⟨q1, q3, q4⟩ | ⟨q1, q3, q4⟩
      · go_wp2_with fail
        go_ret
        exact ⟨rfl, HB.out.trans (hb9.mono HB.out.size)⟩
      · subst q1
        go_wp2_with fail
        go_ret
        exact ⟨rfl, HB.out.trans (hb9.mono HB.out.size)⟩
      · subst q1 q3
        go_wp2_with fail
        go_ret
        exact ⟨rfl, HB.out.trans (hb9.mono HB.out.size)⟩
      subst q1 q3 q4
      obtain ⟨L, e5, m1, m2, m3, P, e7, Q, e8, S, e9, m4, m5, m6, m7, l4, l5, l6, l7, m8⟩ := MORE.out rfl rfl rfl
      obtain ⟨t0, t1, t2, b1s, b2s, b3s⟩ := HT.out
      obtain ⟨bL, b4, b4', b4s⟩ := bytes_of l4
      obtain ⟨bP, b5, b5', b5s⟩ := bytes_of l5
      obtain ⟨bQ, b6, b6', b6s⟩ := bytes_of l6
      obtain ⟨bS, b7, b7', b7s⟩ := bytes_of l7
      have A5 := fun W hW => add_n b1s t2 m1 b4 W hW
      have A6 := fun W hW => add_n t0 b2s m2 b4 W hW
      have C3 := fun W hW => cmp_n b3s b2s m3 W hW
      have M1 := fun W hW => mul_n t0 b2s m4 b5 W hW
      have M2 := fun W hW => mul_n t0 t1 m5 b6 W hW
      have M3 := fun W hW => mul_n t1 t0 m6 b6 W hW
      have M4 := fun W hW => mul_n t0 t2 m7 b7 W hW
      rw [← b6', ← b7'] at m8
      have A7 := fun q7 q8 q9 W hW => add_n b6s b7s (m8 q7 q8 q9) b5 W hW
      obtain ⟨E5, hE5⟩ : ∃ E : Int, (e5 : Int) = E := ⟨_, rfl⟩
      obtain ⟨E7, hE7⟩ : ∃ E : Int, (e7 : Int) = E := ⟨_, rfl⟩
      obtain ⟨E8, hE8⟩ : ∃ E : Int, (e8 : Int) = E := ⟨_, rfl⟩
      obtain ⟨E9, hE9⟩ : ∃ E : Int, (e9 : Int) = E := ⟨_, rfl⟩
      rw [hE5] at A5 A6
      rw [hE7] at M1
      rw [hE8] at M2 M3
      rw [hE9] at M4
      have A7 := fun (q7 : E7 = 0) (q8 : E8 = 0) (q9 : E9 = 0) => A7 (by omega) (by omega) (by omega)
      have A5 := Lib.hid A5
      have A6 := Lib.hid A6
      have A7 := Lib.hid A7
      have C3 := Lib.hid C3
      have M1 := Lib.hid M1
      have M2 := Lib.hid M2
      have M3 := Lib.hid M3
      have M4 := Lib.hid M4
      clear m1 m2 m3 m4 m5 m6 m7 l4 l5 l6 l7 m8 t0 t1 t2 b1s b2s b3s b4 b5 b6 b7 b4' b5' b6' b7' b4s b5s b6s b7s hE5 hE7 hE8 hE9 hst hkw
      go_wp2_with fail
      refine (A5.out _ (HL.out.on hb9)).mono ?_
      rintro x w10 ⟨rfl, hb10⟩
      have hb10 := t_trans hb9 hb10
      clear c0 c1 c2
      obtain ⟨c0, c1, c2, _⟩ := HC.out _ hb10
      go_wp2_with fail
      refine (A6.out _ (HL.out.on hb10)).mono ?_
      rintro x w11 ⟨rfl, hb11⟩
      have hb11 := t_trans hb10 hb11
      clear c0 c1 c2
      obtain ⟨c0, c1, c2, _⟩ := HC.out _ hb11
      go_upto_region 18 with fail
      go_cut [157] from 136 to 158 (fun t wx => t = .bool false ∧ Below w2.heap.size w2 wx)
      case first =>
        by_cases q5 : E5 = 0
        · subst q5
          go_region_held3 (fun W => W.cell? ⟨X, 0, none⟩ = some (.string s0) ∧ W.cell? ⟨X, 1, none⟩ = some (.string s1) ∧ W.cell? ⟨X, 2, none⟩ = some (.string s2) ∧ Below w2.heap.size w2 W)
            ((refine HC.out _ ?_; first | assumption | exact hb11.drew))
            (first | (with_reducible refine (C1.out _ ?_).mono ?_; exact HL.out.on (q3 (by assumption)); rintro x w12 ⟨rfl, hb12⟩; have hb12' := n3_trans (by assumption) hb12) | (with_reducible refine (C3.out _ ?_).mono ?_; exact HL.out.on (q3 (by assumption)); rintro x w13 ⟨rfl, hb13⟩; have hb13' := n3_trans (by assumption) hb13))
          all_goals
            go_wp2_with fail
            go_meet
            refine ⟨rfl, (by first | exact hb12' | exact hb13')⟩
        · have hq5 : (E5 == 0) = false := beq_eq_false_iff_ne.2 q5
          refine wp_region_held_drew (S := fun W => W.cell? ⟨X, 0, none⟩ = some (.string s0) ∧ W.cell? ⟨X, 1, none⟩ = some (.string s1) ∧ W.cell? ⟨X, 2, none⟩ = some (.string s2) ∧ Below w2.heap.size w2 W) (by kernel_rfl) ⟨c0, c1, c2, hb11.drew⟩ (fun hHeld => ?_)
          refine wpAnyH_take (i := 0) (v := .int .i64 E5) rfl (by kernel_rfl) (by kernel_rfl) (by kernel_rfl) (fun _ _ _ h => h) (Or.inl ⟨by rfl, ?_⟩) hHeld ?_
          · intro W ⟨r0, r1, r2, _⟩; go_simp
          try simp only [Act.put, List.setIfInBounds_toArray, List.set_cons_zero, List.set_cons_succ, List.getElem_toArray, List.getElem_cons_zero]
          refine wpAnyH_take (i := 1) (v := .bool false) rfl (by kernel_rfl) (by kernel_rfl) (by kernel_rfl) (fun _ _ _ h => h) (Or.inl ⟨by rfl, ?_⟩) hHeld ?_
          · intro W ⟨r0, r1, r2, _⟩; go_simp
          try simp only [Act.put, List.setIfInBounds_toArray, List.set_cons_zero, List.set_cons_succ, List.getElem_toArray, List.getElem_cons_zero, List.getElem_cons_succ]
          refine wpAnyH_take (i := 2) (v := .bool false) rfl (by kernel_rfl) (by kernel_rfl) (by kernel_rfl) (fun _ _ _ h => h) (Or.inl ⟨by rfl, ?_⟩) hHeld ?_
          · intro W ⟨r0, r1, r2, _⟩; go_simp
          try simp only [Act.put, List.setIfInBounds_toArray, List.set_cons_zero, List.set_cons_succ, List.getElem_toArray, List.getElem_cons_zero, List.getElem_cons_succ]
          refine wpAnyH_take (i := 3) (v := undef) rfl (by kernel_rfl) (by kernel_rfl) (by kernel_rfl) (fun _ _ _ h => h) (Or.inr ⟨by rfl, rfl⟩) hHeld ?_
          try simp only [Act.put, List.setIfInBounds_toArray, List.set_cons_zero, List.set_cons_succ, List.getElem_toArray, List.getElem_cons_zero, List.getElem_cons_succ]
          refine wpAnyH_take (i := 4) (v := undef) rfl (by kernel_rfl) (by kernel_rfl) (by kernel_rfl) (fun _ _ _ h => h) (Or.inr ⟨by rfl, rfl⟩) hHeld ?_
          try simp only [Act.put, List.setIfInBounds_toArray, List.set_cons_zero, List.set_cons_succ, List.getElem_toArray, List.getElem_cons_zero, List.getElem_cons_succ]
          refine wpAnyH_take (i := 5) (v := .bool false) rfl (by kernel_rfl) (by kernel_rfl) (by kernel_rfl) (fun _ _ _ h => h) (Or.inl ⟨by rfl, ?_⟩) hHeld ?_
          · intro W ⟨r0, r1, r2, _⟩; go_simp
          try simp only [Act.put, List.setIfInBounds_toArray, List.set_cons_zero, List.set_cons_succ, List.getElem_toArray, List.getElem_cons_zero, List.getElem_cons_succ]
          refine wpAnyH_take (i := 6) (v := .bool false) rfl (by kernel_rfl) (by kernel_rfl) (by kernel_rfl) (fun _ _ _ h => h) (Or.inl ⟨by rfl, ?_⟩) hHeld ?_
          · intro W ⟨r0, r1, r2, _⟩; go_simp
          try simp only [Act.put, List.setIfInBounds_toArray, List.set_cons_zero, List.set_cons_succ, List.getElem_toArray, List.getElem_cons_zero, List.getElem_cons_succ]
          refine wpAnyH_take (i := 7) (v := undef) rfl (by kernel_rfl) (by kernel_rfl) (by kernel_rfl) (fun _ _ _ h => h) (Or.inr ⟨by rfl, rfl⟩) hHeld ?_
          try simp only [Act.put, List.setIfInBounds_toArray, List.set_cons_zero, List.set_cons_succ, List.getElem_toArray, List.getElem_cons_zero, List.getElem_cons_succ]
          refine wpAnyH_take (i := 8) (v := undef) rfl (by kernel_rfl) (by kernel_rfl) (by kernel_rfl) (fun _ _ _ h => h) (Or.inr ⟨by rfl, rfl⟩) hHeld ?_
          try simp only [Act.put, List.setIfInBounds_toArray, List.set_cons_zero, List.set_cons_succ, List.getElem_toArray, List.getElem_cons_zero, List.getElem_cons_succ]
          refine wpAnyH_take (i := 9) (v := undef) rfl (by kernel_rfl) (by kernel_rfl) (by kernel_rfl) (fun _ _ _ h => h) (Or.inr ⟨by rfl, rfl⟩) hHeld ?_
          try simp only [Act.put, List.setIfInBounds_toArray, List.set_cons_zero, List.set_cons_succ, List.getElem_toArray, List.getElem_cons_zero, List.getElem_cons_succ]
          refine wpAnyH_take (i := 10) (v := .bool false) rfl (by kernel_rfl) (by kernel_rfl) (by kernel_rfl) (fun _ _ _ h => h) (Or.inl ⟨by rfl, ?_⟩) hHeld ?_
          · intro W ⟨r0, r1, r2, _⟩; go_simp
          try simp only [Act.put, List.setIfInBounds_toArray, List.set_cons_zero, List.set_cons_succ, List.getElem_toArray, List.getElem_cons_zero, List.getElem_cons_succ]
          refine wpAnyH_take (i := 11) (v := .bool false) rfl (by kernel_rfl) (by kernel_rfl) (by kernel_rfl) (fun _ _ _ h => h) (Or.inl ⟨by rfl, ?_⟩) hHeld ?_
          · intro W ⟨r0, r1, r2, _⟩; go_simp
          try simp only [Act.put, List.setIfInBounds_toArray, List.set_cons_zero, List.set_cons_succ, List.getElem_toArray, List.getElem_cons_zero, List.getElem_cons_succ]
          refine wpAnyH_take (i := 12) (v := .string bXZ) rfl (by kernel_rfl) (by kernel_rfl) (by kernel_rfl) (fun _ _ _ h => h) (Or.inl ⟨by rfl, ?_⟩) hHeld ?_
          · intro W ⟨r0, r1, r2, _⟩; go_simp
          try simp only [Act.put, List.setIfInBounds_toArray, List.set_cons_zero, List.set_cons_succ, List.getElem_toArray, List.getElem_cons_zero, List.getElem_cons_succ]
          refine wpAnyH_take (i := 13) (v := .string bYZ) rfl (by kernel_rfl) (by kernel_rfl) (by kernel_rfl) (fun _ _ _ h => h) (Or.inl ⟨by rfl, ?_⟩) hHeld ?_
          · intro W ⟨r0, r1, r2, _⟩; go_simp
          try simp only [Act.put, List.setIfInBounds_toArray, List.set_cons_zero, List.set_cons_succ, List.getElem_toArray, List.getElem_cons_zero, List.getElem_cons_succ]
          refine wpAnyH_take (i := 15) (v := .pointer (some ⟨X, 0, none⟩)) rfl (by kernel_rfl) (by kernel_rfl) (by kernel_rfl) (fun _ _ _ h => h) (Or.inl ⟨by rfl, ?_⟩) hHeld ?_
          · intro W ⟨r0, r1, r2, _⟩; go_simp
          try simp only [Act.put, List.setIfInBounds_toArray, List.set_cons_zero, List.set_cons_succ, List.getElem_toArray, List.getElem_cons_zero, List.getElem_cons_succ]
          refine wpAnyH_take (i := 16) (v := .string s0) rfl (by kernel_rfl) (by kernel_rfl) (by kernel_rfl) (fun _ _ _ h => h) (Or.inl ⟨by rfl, ?_⟩) hHeld ?_
          · intro W ⟨r0, r1, r2, _⟩; go_simp
          try simp only [Act.put, List.setIfInBounds_toArray, List.set_cons_zero, List.set_cons_succ, List.getElem_toArray, List.getElem_cons_zero, List.getElem_cons_succ]
          refine wpAnyH_take (i := 17) (v := .pointer (some ⟨X, 1, none⟩)) rfl (by kernel_rfl) (by kernel_rfl) (by kernel_rfl) (fun _ _ _ h => h) (Or.inl ⟨by rfl, ?_⟩) hHeld ?_
          · intro W ⟨r0, r1, r2, _⟩; go_simp
          try simp only [Act.put, List.setIfInBounds_toArray, List.set_cons_zero, List.set_cons_succ, List.getElem_toArray, List.getElem_cons_zero, List.getElem_cons_succ]
          refine wpAnyH_take (i := 18) (v := .string s1) rfl (by kernel_rfl) (by kernel_rfl) (by kernel_rfl) (fun _ _ _ h => h) (Or.inl ⟨by rfl, ?_⟩) hHeld ?_
          · intro W ⟨r0, r1, r2, _⟩; go_simp
          try simp only [Act.put, List.setIfInBounds_toArray, List.set_cons_zero, List.set_cons_succ, List.getElem_toArray, List.getElem_cons_zero, List.getElem_cons_succ]
          refine wpAnyH_ready (rs := [14]) (by kernel_rfl) (by simp) ?_
          refine AllReadyH.cons rfl (fun K hK => ?_) AllReadyH.nil
          rw [if_pos (by rfl)]
          go_simp
          refine (C3.out _ (HL.out.on (q3 hHeld))).mono ?_
          rintro x w12 ⟨rfl, hb12⟩
          have hb12' := n3_trans hHeld hb12
          refine hK.out _ _ (HC.out _ hb12') (fun hHeld => ?_)
          clear hK K
          try simp only [Act.put, List.setIfInBounds_toArray, List.set_cons_zero, List.set_cons_succ, List.getElem_toArray, List.getElem_cons_zero, List.getElem_cons_succ]
          refine wpAnyH_ready (rs := [19]) (by kernel_rfl) (by simp) ?_
          refine AllReadyH.cons rfl (fun K hK => ?_) AllReadyH.nil
          rw [if_pos (by rfl)]
          go_simp
          refine (C1.out _ (HL.out.on (q3 hHeld))).mono ?_
          rintro x w13 ⟨rfl, hb13⟩
          have hb13' := n3_trans hHeld hb13
          refine hK.out _ _ (HC.out _ hb13') (fun hHeld => ?_)
          clear hK K
          try simp only [Act.put, List.setIfInBounds_toArray, List.set_cons_zero, List.set_cons_succ, List.getElem_toArray, List.getElem_cons_zero, List.getElem_cons_succ]
          refine wpAnyH_take (i := 20) (v := .bool false) rfl (by kernel_rfl) (by kernel_rfl) (by kernel_rfl) (fun _ _ _ h => h) (Or.inl ⟨by rfl, ?_⟩) hHeld ?_
          · intro W ⟨r0, r1, r2, _⟩; go_simp
          try simp only [Act.put, List.setIfInBounds_toArray, List.set_cons_zero, List.set_cons_succ, List.getElem_toArray, List.getElem_cons_zero, List.getElem_cons_succ]
          refine wpAnyH_take (i := 21) (v := .bool false) rfl (by kernel_rfl) (by kernel_rfl) (by kernel_rfl) (fun _ _ _ h => h) (Or.inl ⟨by rfl, ?_⟩) hHeld ?_
          · intro W ⟨r0, r1, r2, _⟩; go_simp
          try simp only [Act.put, List.setIfInBounds_toArray, List.set_cons_zero, List.set_cons_succ, List.getElem_toArray, List.getElem_cons_zero, List.getElem_cons_succ]
          refine wpAnyH_done (by kernel_rfl) ?_ _
          go_wp2_with fail
          go_meet
          exact ⟨rfl, hb13'⟩
      case rest =>
        obtain ⟨rfl, hb14⟩ := hcut
        obtain ⟨w14, hw14⟩ : ∃ W, W = wc := ⟨_, rfl⟩
        subst hw14
        clear c0 c1 c2
        obtain ⟨c0, c1, c2, _⟩ := HC.out _ hb14
        go_wp2_with fail
        refine (M1.out _ (HL.out.on hb14)).mono ?_
        rintro x w15 ⟨rfl, hb15⟩
        have hb15 := t_trans hb14 hb15
        clear c0 c1 c2
        obtain ⟨c0, c1, c2, _⟩ := HC.out _ hb15
        go_wp2_with fail
        refine (M2.out _ (HL.out.on hb15)).mono ?_
        rintro x w16 ⟨rfl, hb16⟩
        have hb16 := t_trans hb15 hb16
        clear c0 c1 c2
        obtain ⟨c0, c1, c2, _⟩ := HC.out _ hb16
        go_wp2_with fail
        refine (M4.out _ (HL.out.on hb16)).mono ?_
        rintro x w17 ⟨rfl, hb17⟩
        have hb17 := t_trans hb16 hb17
        clear c0 c1 c2
        obtain ⟨c0, c1, c2, _⟩ := HC.out _ hb17
        have hcase : (¬ E7 = 0) ∨ (E7 = 0 ∧ ¬ E8 = 0) ∨ (E7 = 0 ∧ E8 = 0 ∧ ¬ E9 = 0) ∨ (E7 = 0 ∧ E8 = 0 ∧ E9 = 0) := by omega
        rcases hcase with q7 | ⟨q7, q8⟩ | ⟨q7, q8, q9⟩ | ⟨q7, q8, q9⟩
        · go_wp2_with fail
          go_ret
          exact ⟨rfl, HB.out.trans (hb17.mono HB.out.size)⟩
        · subst q7
          go_wp2_with fail
          go_ret
          exact ⟨rfl, HB.out.trans (hb17.mono HB.out.size)⟩
        · subst q7 q8
          go_wp2_with fail
          go_ret
          exact ⟨rfl, HB.out.trans (hb17.mono HB.out.size)⟩
        subst q7 q8 q9
        have A7z := Lib.hid (A7.out rfl rfl rfl)
        clear A7
        go_wp2_with fail
        refine (A7z.out _ (HL.out.on hb17)).mono ?_
        rintro x w18 ⟨rfl, hb18⟩
        have hb18 := t_trans hb17 hb18
        clear c0 c1 c2
        obtain ⟨c0, c1, c2, _⟩ := HC.out _ hb18
        go_wp2_with fail
        refine (M3.out _ (HL.out.on hb18)).mono ?_
        rintro x w19 ⟨rfl, hb19⟩
        have hb19 := t_trans hb18 hb19
        go_wp2_with fail
        go_ret
        exact ⟨rfl, HB.out.trans (hb19.mono HB.out.size)⟩
end Go.Proofs.YtmgafnflkfbckaaDoor
