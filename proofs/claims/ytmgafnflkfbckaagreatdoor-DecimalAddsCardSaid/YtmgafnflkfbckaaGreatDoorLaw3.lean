/- DecimalAdds: the law's walk. -/
import Derived.Test.YtmgafnflkfbckaaGreatDoorWalkAI
import Derived.Test.YtmgafnflkfbckaaGreatDoorWalkAL
import Derived.Test.YtmgafnflkfbckaaGreatDoorWalkAM
import Derived.Test.YtmgafnflkfbckaaGreatDoorWalkAQ
import Derived.Test.YtmgafnflkfbckaaGreatDoorPlain11
namespace Go.Proofs.YtmgafnflkfbckaaGreatDoor
open Go.RowKit Go.Lib

theorem l_trans {w2 W w' : World} (h : Below w2.heap.size w2 W) (h' : Below W.heap.size W w') : Below w2.heap.size w2 w' := h.trans (h'.mono h.size)
/-- Two boxed numbers. -/
theorem two_boxes {w5 : World} {X Y : Nat} {g g' : Bool} {A A' : Option Addr} {n c m d : Nat} {e e' : Int} {t t' : TypeId} (hX : w5.heap[X]? = some (.cells #[.bool g, .slice A n c, .int .i64 e] t (0, 0))) (hY : w5.heap[Y]? = some (.cells #[.bool g', .slice A' m d, .int .i64 e'] t' (0, 0))) :
    ∀ W, Below w5.heap.size w5 W → W.cell? ⟨X, 0, none⟩ = some (.bool g) ∧ W.cell? ⟨X, 1, none⟩ = some (.slice A n c) ∧ W.cell? ⟨X, 2, none⟩ = some (.int .i64 e) ∧
      W.cell? ⟨Y, 0, none⟩ = some (.bool g') ∧ W.cell? ⟨Y, 1, none⟩ = some (.slice A' m d) ∧ W.cell? ⟨Y, 2, none⟩ = some (.int .i64 e') ∧ Below w5.heap.size w5 W := by
  intro W hW
  have h1 := (hW.block X (lt_of_block hX)).trans hX
  have h2 := (hW.block Y (lt_of_block hY)).trans hY
  exact ⟨at_block h1 0 _ rfl, at_block h1 1 _ rfl, at_block h1 2 _ rfl, at_block h2 0 _ rfl, at_block h2 1 _ rfl, at_block h2 2 _ rfl, hW⟩

set_option maxHeartbeats 1000000 in
set_option maxRecDepth 100000 in
theorem few_any (g : Bool) (A : Option Addr) (n c : Nat) (e : Int) : ∃ b, ∀ w : World, Calls Tryz.prog 9 #[.agg #[.bool g, .slice A n c, .int .i64 e]] w fun x w' => x = .returned (.bool b) ∧ Below w.heap.size w w' := by
  refine ⟨decide (n ≤ 60 ∧ e ≤ 120 ∧ -120 ≤ e), fun w => ?_⟩
  obtain ⟨w2, X, hw2, hX, hb2, hX2, hcells⟩ := box_ref g A n c e w
  have HW2 := Lib.hid hw2
  have HXX := Lib.hid hX
  obtain ⟨q0, q1, q2, _⟩ := hcells w2 (Below.refl _ _)
  clear hw2 hX hcells
  by_cases h1 : n ≤ 60
  · have h1i : (n : Int) ≤ 60 := by omega
    by_cases h2 : e ≤ 120
    · by_cases h3 : -120 ≤ e
      · have hd : decide (n ≤ 60 ∧ e ≤ 120 ∧ -120 ≤ e) = true := decide_eq_true ⟨h1, h2, h3⟩
        rw [hd]
        clear hd h1
        go_enter Tryz.func9, Tryz.ntmps9
        go_upto_region 1 with fail
        rw [HW2.out, HXX.out]
        go_wp2_with fail
        go_ret
        exact ⟨rfl, hb2⟩
      · have hd : decide (n ≤ 60 ∧ e ≤ 120 ∧ -120 ≤ e) = false := decide_eq_false (fun h => h3 h.2.2)
        rw [hd]
        clear hd h1
        go_enter Tryz.func9, Tryz.ntmps9
        go_upto_region 1 with fail
        rw [HW2.out, HXX.out]
        go_wp2_with fail
        go_ret
        exact ⟨rfl, hb2⟩
    · have hd : decide (n ≤ 60 ∧ e ≤ 120 ∧ -120 ≤ e) = false := decide_eq_false (fun h => h2 h.2.1)
      rw [hd]
      clear hd h1
      go_enter Tryz.func9, Tryz.ntmps9
      go_upto_region 1 with fail
      rw [HW2.out, HXX.out]
      go_wp2_with fail
      go_ret
      exact ⟨rfl, hb2⟩
  · have h1i : ¬ (n : Int) ≤ 60 := by omega
    have hd : decide (n ≤ 60 ∧ e ≤ 120 ∧ -120 ≤ e) = false := decide_eq_false (fun h => h1 h.1)
    rw [hd]
    clear hd h1
    go_enter Tryz.func9, Tryz.ntmps9
    go_upto_region 1 with fail
    rw [HW2.out, HXX.out]
    go_wp2_with fail
    go_ret
    exact ⟨rfl, hb2⟩
theorem rd_any (s : ByteArray) (W : World) (hs : s.size ≤ 600) : Calls Tryz.prog 5 #[.string s] W fun x w' => ∃ g A n c e l, x = .returned (.tuple #[.agg #[.bool g, .slice A n c, .int .i64 e], .bool (Dc.readP s.data.toList).isSome]) ∧
    ((Dc.readP s.data.toList).isSome = true → Dc.readP s.data.toList = some ⟨g, l, e⟩ ∧ Reads w' w'.heap.size A n (i64s l)) ∧ Below W.heap.size W w' := by
  refine (refread_any s W (by omega)).mono ?_
  rintro x w' ⟨⟨g, A, n, c, e, rfl, h⟩, hb⟩
  cases hr : Dc.readP s.data.toList with
  | none => exact ⟨g, A, n, c, e, [], rfl, fun hh => by simp at hh, hb⟩
  | some y =>
    obtain ⟨h1, h2, h3, ho⟩ := h y hr
    exact ⟨g, A, n, c, e, y.c, rfl, fun _ => ⟨by rw [h1, h3], by obtain ⟨A', c', hv, _, hr'⟩ := own_slice ho; cases hv; exact hr'⟩, hb⟩
/-- What is called at two numbers. -/
theorem good_calls {a b : ByteArray} {x y : Dc.D} (rx : Dc.readP a.data.toList = some x) (ry : Dc.readP b.data.toList = some y) (gx gy : Bool) (lx ly : List Nat) (ex ey : Int) (hx : x = ⟨gx, lx, ex⟩) (hy : y = ⟨gy, ly, ey⟩) (A1 A2 : Option Addr) (n1 n2 c1 c2 : Nat) (T1 T2 : ByteArray) (g1 g2 c : Int)
    (h1 : (⟨(Dc.addS a.data.toList b.data.toList).1.toArray⟩ : ByteArray) = T1) (h2 : (⟨(Dc.mulS a.data.toList b.data.toList).1.toArray⟩ : ByteArray) = T2) (h3 : ((Dc.addS a.data.toList b.data.toList).2 : Int) = g1) (h4 : ((Dc.mulS a.data.toList b.data.toList).2 : Int) = g2) (h5 : Dc.cmpS a.data.toList b.data.toList = c) :
    ∃ (gP gQ : Bool) (lP lQ : List Nat) (eP eQ : Int) (nP nQ : Nat),
      (∀ W, Reads W W.heap.size A1 n1 (i64s lx) → Reads W W.heap.size A2 n2 (i64s ly) → Calls Tryz.prog 10 #[.agg #[.bool gx, .slice A1 n1 c1, .int .i64 ex], .agg #[.bool gy, .slice A2 n2 c2, .int .i64 ey]] W fun x w' => ∃ A' c', x = .returned (.agg #[.bool gP, .slice A' nP c', .int .i64 eP]) ∧ w'.ownsRow W.heap.size 3 1 (.slice A' nP c') nP (i64s lP) ∧ Below W.heap.size W w') ∧
      (∀ W, Reads W W.heap.size A1 n1 (i64s lx) → Reads W W.heap.size A2 n2 (i64s ly) → Calls Tryz.prog 11 #[.agg #[.bool gx, .slice A1 n1 c1, .int .i64 ex], .agg #[.bool gy, .slice A2 n2 c2, .int .i64 ey]] W fun x w' => ∃ A' c', x = .returned (.agg #[.bool gQ, .slice A' nQ c', .int .i64 eQ]) ∧ w'.ownsRow W.heap.size 3 1 (.slice A' nQ c') nQ (i64s lQ) ∧ Below W.heap.size W w') ∧
      (∀ W A c, Reads W W.heap.size A nP (i64s lP) → Calls Tryz.prog 12 #[.string T1, .int .i64 g1, .agg #[.bool gP, .slice A nP c, .int .i64 eP]] W fun y w' => y = .returned (.bool true) ∧ Below W.heap.size W w') ∧
      (∀ W A c, Reads W W.heap.size A nQ (i64s lQ) → Calls Tryz.prog 12 #[.string T2, .int .i64 g2, .agg #[.bool gQ, .slice A nQ c, .int .i64 eQ]] W fun y w' => y = .returned (.bool true) ∧ Below W.heap.size W w') ∧
      (∀ W, Reads W W.heap.size A1 n1 (i64s lx) → Reads W W.heap.size A2 n2 (i64s ly) → Calls Tryz.prog 13 #[.agg #[.bool gx, .slice A1 n1 c1, .int .i64 ex], .agg #[.bool gy, .slice A2 n2 c2, .int .i64 ey]] W fun x w' => x = .returned (.int .i64 c) ∧ Below W.heap.size W w') := by
  obtain ⟨cx, _⟩ := Dc.readP_some rx
  obtain ⟨cy, _⟩ := Dc.readP_some ry
  obtain ⟨a1, a2, a3, a4⟩ := Dc.canon_bound cx
  obtain ⟨b1, b2, b3, b4⟩ := Dc.canon_bound cy
  have bs := Dc.sumP_bound cx cy
  have bp := Dc.prodP_bound2 cx cy
  have ra := Dc.refAddP_eq cx.1 cy.1
  have rc := Dc.refCmpP_eq cx.1 cy.1
  obtain ⟨P, hP⟩ : ∃ P, Dc.sumP x y = P := ⟨_, rfl⟩
  obtain ⟨Q, hQ⟩ : ∃ Q, Dc.prodP x y = Q := ⟨_, rfl⟩
  rw [Dc.addS, rx, ry] at h1 h3
  rw [Dc.mulS, rx, ry] at h2 h4
  rw [Dc.cmpS, rx, ry] at h5
  simp only at h1 h2 h3 h4 h5
  rw [hP] at h1 h3 bs ra
  rw [hQ] at h2 h4 bp
  rw [h5] at rc
  subst hx hy
  refine ⟨P.neg, Q.neg, P.c, Q.c, P.e, Q.e, P.c.length, Q.c.length, ?_, ?_, ?_, ?_, ?_⟩
  · intro W hW hW'
    have l1 : lx.length = n1 := by have := hW.1; rwa [i64s_len] at this
    have l2 : ly.length = n2 := by have := hW'.1; rwa [i64s_len] at this
    refine (refadd_any gx A1 n1 c1 lx ex gy A2 n2 c2 ly ey W hW hW' a1 b1 (by simp only at a2; omega) (by simp only at b2; omega) (by simp only at a3 a4; omega) (by simp only at b3 b4; omega)).mono ?_
    rintro z w' ⟨v, rfl, hv, hb⟩
    rw [ra] at hv
    obtain ⟨A', c', rfl, hr⟩ := hv
    exact ⟨A', c', rfl, hr, hb⟩
  · intro W hW hW'
    have l1 : lx.length = n1 := by have := hW.1; rwa [i64s_len] at this
    have l2 : ly.length = n2 := by have := hW'.1; rwa [i64s_len] at this
    refine (refmul_any gx A1 n1 c1 lx ex gy A2 n2 c2 ly ey W hW hW' a1 b1 (by simp only at a2; omega) (by simp only at b2; omega) (by simp only at a3 a4; omega) (by simp only at b3 b4; omega)).mono ?_
    rintro z w' ⟨v, rfl, hv, hb⟩
    rw [hQ] at hv
    obtain ⟨A', c', rfl, hr⟩ := hv
    exact ⟨A', c', rfl, hr, hb⟩
  · intro W A c hr
    have := is0_true P.neg A P.c.length c P.c P.e W hr bs.1.1 (by omega)
    rw [← h1, ← h3]; exact this
  · intro W A c hr
    have := is0_true Q.neg A Q.c.length c Q.c Q.e W hr bp.1.1 (by omega)
    rw [← h2, ← h4]; exact this
  · intro W hW hW'
    have l1 : lx.length = n1 := by have := hW.1; rwa [i64s_len] at this
    have l2 : ly.length = n2 := by have := hW'.1; rwa [i64s_len] at this
    have := refcmp_any gx A1 n1 c1 lx ex gy A2 n2 c2 ly ey W hW hW' (by simp only at a2; omega) (by simp only at b2; omega) (by simp only at a3 a4; omega) (by simp only at b3 b4; omega)
    rw [rc] at this; exact this

theorem two_new {w W w2 : World} {o o' : Obj} (h : Below W.heap.size W w2) (hW : W.heap = ((w.alloc o).alloc o').heap) : w2.heap[w.heap.size]? = some o ∧ w2.heap[w.heap.size + 1]? = some o' := by
  have hs : W.heap.size = w.heap.size + 2 := by rw [hW]; simp
  refine ⟨?_, ?_⟩
  · rw [h.block _ (by omega), hW, Below.heap_alloc _ _ _ (by simp)]; exact heap_alloc_new w o
  · rw [h.block _ (by omega), hW]
    have := heap_alloc_new (w.alloc o) o'
    simpa using this
theorem one_new {w W w2 : World} {o : Obj} (h : Below W.heap.size W w2) (hW : W.heap = (w.alloc o).heap) : w2.heap[w.heap.size]? = some o := by
  have hs : W.heap.size = w.heap.size + 1 := by rw [hW]; simp
  rw [h.block _ (by omega), hW]; exact heap_alloc_new w o
theorem kept0 {w W w2 : World} {o : Obj} {k : Nat} (h : Below W.heap.size W w2) (hW : W.heap = w.heap) (hq : w.heap[k]? = some o) : w2.heap[k]? = some o := by
  have := (Array.getElem?_eq_some_iff.1 hq).1
  rw [h.block _ (by rw [hW]; exact this), hW]; exact hq
theorem kept1 {w W w2 : World} {o o' : Obj} {k : Nat} (h : Below W.heap.size W w2) (hW : W.heap = (w.alloc o').heap) (hq : w.heap[k]? = some o) : w2.heap[k]? = some o := by
  have := (Array.getElem?_eq_some_iff.1 hq).1
  rw [h.block _ (by rw [hW]; simp; omega), hW, Below.heap_alloc _ _ _ this]; exact hq
theorem box_facts {w : World} {G : Nat} {t : TypeId} (h : w.heap[G]? = some (.cells #[.bool false, .slice none 0 0, .int .i64 0] t (0, 0))) :
    (w.cell? ⟨G, 0, none⟩ = some (.bool false) ∧ w.cell? ⟨G, 1, none⟩ = some (.slice none 0 0) ∧ w.cell? ⟨G, 2, none⟩ = some (.int .i64 0) ∧ w.frozen? ⟨G, 0, none⟩ = false ∧ w.frozen? ⟨G, 1, none⟩ = false ∧ w.frozen? ⟨G, 2, none⟩ = false) ∧
    ((∀ o, (w.alloc o).cell? ⟨G, 0, none⟩ = some (.bool false)) ∧ (∀ o, (w.alloc o).cell? ⟨G, 1, none⟩ = some (.slice none 0 0)) ∧ (∀ o, (w.alloc o).cell? ⟨G, 2, none⟩ = some (.int .i64 0)) ∧ (∀ o, (w.alloc o).frozen? ⟨G, 0, none⟩ = false) ∧ (∀ o, (w.alloc o).frozen? ⟨G, 1, none⟩ = false) ∧ (∀ o, (w.alloc o).frozen? ⟨G, 2, none⟩ = false)) ∧
    G ≠ w.heap.size ∧ w.heap.size ≠ G := by
  have hlt := lt_of_block h
  have h' : ∀ o, (w.alloc o).heap[G]? = some (.cells #[.bool false, .slice none 0 0, .int .i64 0] t (0, 0)) := fun o => by rw [Below.heap_alloc _ _ _ hlt]; exact h
  exact ⟨⟨at_block h 0 _ rfl, at_block h 1 _ rfl, at_block h 2 _ rfl, free_block h 0, free_block h 1, free_block h 2⟩, ⟨fun o => at_block (h' o) 0 _ rfl, fun o => at_block (h' o) 1 _ rfl, fun o => at_block (h' o) 2 _ rfl, fun o => free_block (h' o) 0, fun o => free_block (h' o) 1, fun o => free_block (h' o) 2⟩, by omega, by omega⟩

/-- Two results laid in blocks of their own, whichever block was made when. -/
def Fin2 (w5 w12 W : World) (G1 G2 : Nat) (gP gQ : Bool) (A3 A4 : Option Addr) (nP c3 nQ c4 : Nat) (eP eQ : Int) : Prop :=
  W.heap[G1]? = some (.cells #[.bool gP, .slice A3 nP c3, .int .i64 eP] 25 (0, 0)) ∧ W.heap[G2]? = some (.cells #[.bool gQ, .slice A4 nQ c4, .int .i64 eQ] 25 (0, 0)) ∧ (∀ k, k ≠ G1 → k ≠ G2 → k < w12.heap.size → W.heap[k]? = w12.heap[k]?) ∧ Below w5.heap.size w5 W
section
variable {w5 w12 : World} {G1 G2 : Nat} {gP gQ : Bool} {A3 A4 : Option Addr} {nP c3 nQ c4 : Nat} {eP eQ : Int}
theorem new_two (w : World) (o o' : Obj) : ((w.alloc o).alloc o').heap[w.heap.size]? = some o ∧ ((w.alloc o).alloc o').heap[w.heap.size + 1]? = some o' := by
  refine ⟨?_, ?_⟩
  · rw [Below.heap_alloc _ _ _ (by simp)]; exact heap_alloc_new w o
  · have := heap_alloc_new (w.alloc o) o'
    simpa using this
theorem set_three {w : World} {G : Nat} {a b c : Value} {t : TypeId} (h : w.heap[G]? = some (.cells #[.bool false, .slice none 0 0, .int .i64 0] t (0, 0))) :
    (((w.setCell ⟨G, 0, none⟩ a).setCell ⟨G, 1, none⟩ b).setCell ⟨G, 2, none⟩ c).heap[G]? = some (.cells #[a, b, c] t (0, 0)) := block_set (block_set (block_set h 0 _) 1 _) 2 _
theorem set_three_other {w : World} {G k : Nat} {a b c : Value} (hk : k ≠ G) : (((w.setCell ⟨G, 0, none⟩ a).setCell ⟨G, 1, none⟩ b).setCell ⟨G, 2, none⟩ c).heap[k]? = w.heap[k]? := by
  rw [Below.heap_setCell _ _ _ _ hk, Below.heap_setCell _ _ _ _ hk, Below.heap_setCell _ _ _ _ hk]
theorem b_three {a W : World} {X : Nat} {u v x : Value} (h : Below a.heap.size a W) (hX : a.heap.size ≤ X) : Below a.heap.size a (((W.setCell ⟨X, 0, none⟩ u).setCell ⟨X, 1, none⟩ v).setCell ⟨X, 2, none⟩ x) := b_set (b_set (b_set h hX _) hX _) hX _
theorem finA (h : Below w5.heap.size w5 w12) : Fin2 w5 w12 ((w12.alloc (.cells #[.bool gP, .slice A3 nP c3, .int .i64 eP] 25)).alloc (.cells #[.bool gQ, .slice A4 nQ c4, .int .i64 eQ] 25)) w12.heap.size (w12.heap.size + 1) gP gQ A3 A4 nP c3 nQ c4 eP eQ :=
  ⟨(new_two _ _ _).1, (new_two _ _ _).2, fun k _ _ hk => by rw [Below.heap_alloc _ _ _ (by simp; omega), Below.heap_alloc _ _ _ hk], b_alloc (b_alloc h _) _⟩
theorem finA' (h : Below w5.heap.size w5 w12) : Fin2 w5 w12 ((w12.alloc (.cells #[.bool gQ, .slice A4 nQ c4, .int .i64 eQ] 25)).alloc (.cells #[.bool gP, .slice A3 nP c3, .int .i64 eP] 25)) (w12.heap.size + 1) w12.heap.size gP gQ A3 A4 nP c3 nQ c4 eP eQ :=
  ⟨(new_two _ _ _).2, (new_two _ _ _).1, fun k _ _ hk => by rw [Below.heap_alloc _ _ _ (by simp; omega), Below.heap_alloc _ _ _ hk], b_alloc (b_alloc h _) _⟩
theorem finB (h : Below w5.heap.size w5 w12) (h1 : w12.heap[G1]? = some (.cells #[.bool false, .slice none 0 0, .int .i64 0] 25 (0, 0))) (hG : w5.heap.size ≤ G1) :
    Fin2 w5 w12 (((((((w12.alloc (.cells #[.bool false, .slice none 0 0, .int .i64 0] 25)).setCell ⟨G1, 0, none⟩ (.bool gP)).setCell ⟨G1, 1, none⟩ (.slice A3 nP c3)).setCell ⟨G1, 2, none⟩ (.int .i64 eP)).setCell ⟨w12.heap.size, 0, none⟩ (.bool gQ)).setCell ⟨w12.heap.size, 1, none⟩ (.slice A4 nQ c4)).setCell ⟨w12.heap.size, 2, none⟩ (.int .i64 eQ)) G1 w12.heap.size gP gQ A3 A4 nP c3 nQ c4 eP eQ := by
  have hlt := lt_of_block h1
  refine ⟨?_, ?_, fun k hk1 hk2 hk => ?_, b_three (b_three (b_alloc h _) hG) h.size⟩
  · rw [set_three_other (by omega)]
    exact set_three (by rw [Below.heap_alloc _ _ _ hlt]; exact h1)
  · refine set_three ?_
    rw [set_three_other (by omega)]
    exact heap_alloc_new w12 _
  · rw [set_three_other hk2, set_three_other hk1, Below.heap_alloc _ _ _ hk]
theorem finC (h : Below w5.heap.size w5 w12) (h2 : w12.heap[G2]? = some (.cells #[.bool false, .slice none 0 0, .int .i64 0] 25 (0, 0))) (hG : w5.heap.size ≤ G2) :
    Fin2 w5 w12 ((((w12.alloc (.cells #[.bool gP, .slice A3 nP c3, .int .i64 eP] 25)).setCell ⟨G2, 0, none⟩ (.bool gQ)).setCell ⟨G2, 1, none⟩ (.slice A4 nQ c4)).setCell ⟨G2, 2, none⟩ (.int .i64 eQ)) w12.heap.size G2 gP gQ A3 A4 nP c3 nQ c4 eP eQ := by
  have hlt := lt_of_block h2
  refine ⟨?_, ?_, fun k hk1 hk2 hk => ?_, b_three (b_alloc h _) hG⟩
  · rw [set_three_other (by omega)]
    exact heap_alloc_new w12 _
  · exact set_three (by rw [Below.heap_alloc _ _ _ hlt]; exact h2)
  · rw [set_three_other hk2, Below.heap_alloc _ _ _ hk]
theorem finD (h : Below w5.heap.size w5 w12) (h1 : w12.heap[G1]? = some (.cells #[.bool false, .slice none 0 0, .int .i64 0] 25 (0, 0))) (h2 : w12.heap[G2]? = some (.cells #[.bool false, .slice none 0 0, .int .i64 0] 25 (0, 0))) (hG : w5.heap.size ≤ G1) (hG' : w5.heap.size ≤ G2) (hne : G1 ≠ G2) :
    Fin2 w5 w12 ((((((w12.setCell ⟨G1, 0, none⟩ (.bool gP)).setCell ⟨G1, 1, none⟩ (.slice A3 nP c3)).setCell ⟨G1, 2, none⟩ (.int .i64 eP)).setCell ⟨G2, 0, none⟩ (.bool gQ)).setCell ⟨G2, 1, none⟩ (.slice A4 nQ c4)).setCell ⟨G2, 2, none⟩ (.int .i64 eQ)) G1 G2 gP gQ A3 A4 nP c3 nQ c4 eP eQ := by
  refine ⟨?_, ?_, fun k hk1 hk2 hk => ?_, b_three (b_three h hG) hG'⟩
  · rw [set_three_other hne]
    exact set_three h1
  · refine set_three ?_
    rw [set_three_other (Ne.symm hne)]
    exact h2
  · rw [set_three_other hk2, set_three_other hk1]
theorem own_heap {w w' : World} {base : Nat} {e : TypeId} {v : Value} {n : Nat} {xs : List Value} (h : w.ownsRow base e 1 v n xs) (hk : ∀ k, base ≤ k → k < w.heap.size → w'.heap[k]? = w.heap[k]?) : w'.ownsRow base e 1 v n xs := by
  obtain ⟨h1, h2⟩ := h
  refine ⟨h1, ?_⟩
  rcases h2 with h2 | ⟨g, cap, cur, hv, hb, hg, hr⟩
  · exact .inl h2
  · exact .inr ⟨g, cap, cur, hv, hb, (hk g hb (lt_of_block hg)).trans hg, hr⟩
theorem close14 {w11 W : World} {b3 b4 : Nat} {lP lQ : List Nat} (O3 : w11.ownsRow b3 3 1 (.slice A3 nP c3) nP (i64s lP)) (O4 : w12.ownsRow b4 3 1 (.slice A4 nQ c4) nQ (i64s lQ)) (D : Below w11.heap.size w11 w12) (F : Fin2 w5 w12 W G1 G2 gP gQ A3 A4 nP c3 nQ c4 eP eQ)
    (h1 : G1 < b3 ∨ w11.heap.size ≤ G1) (h2 : G2 < b3 ∨ w11.heap.size ≤ G2) (h3 : G1 < b4 ∨ w12.heap.size ≤ G1) (h4 : G2 < b4 ∨ w12.heap.size ≤ G2) :
    W.heap[G1]? = some (.cells #[.bool gP, .slice A3 nP c3, .int .i64 eP] 25 (0, 0)) ∧ W.heap[G2]? = some (.cells #[.bool gQ, .slice A4 nQ c4, .int .i64 eQ] 25 (0, 0)) ∧ Reads W W.heap.size A3 nP (i64s lP) ∧ Reads W W.heap.size A4 nQ (i64s lQ) ∧ Below w5.heap.size w5 W := by
  obtain ⟨f1, f2, f3, f4⟩ := F
  refine ⟨f1, f2, Reads.of_own (own_heap O3 fun k k1 k2 => ?_), Reads.of_own (own_heap O4 fun k k1 k2 => f3 k (by omega) (by omega) k2), f4⟩
  rw [f3 k (by omega) (by omega) (by have := D.size; omega), D.block k k2]
end

set_option maxHeartbeats 4000000 in
set_option maxRecDepth 100000 in
theorem law3 (a b : ByteArray) (w : World) (hL : Laid w) : Calls Tryz.prog 3 #[.string a, .string b] w fun x w' => x = .returned (.bool true) ∧ Below w.heap.size w w' := by
  have AW := Lib.hid (awake_any w hL)
  have HL := Lib.hid hL
  clear hL
  by_cases ha : 600 < a.size
  · have hi : (600 : Int) < (a.size : Int) := by omega
    go_enter Tryz.func3, Tryz.ntmps3
    go_wp2_with fail
    refine (AW.out).mono ?_
    rintro x w1 ⟨rfl, hb1⟩
    go_wp2_with fail
    go_ret
    exact ⟨rfl, hb1⟩
  by_cases hb : 600 < b.size
  · have hi0 : ¬ (600 : Int) < (a.size : Int) := by omega
    have hi : (600 : Int) < (b.size : Int) := by omega
    go_enter Tryz.func3, Tryz.ntmps3
    go_wp2_with fail
    refine (AW.out).mono ?_
    rintro x w1 ⟨rfl, hb1⟩
    go_wp2_with fail
    go_ret
    exact ⟨rfl, hb1⟩
  have hi0 : ¬ (600 : Int) < (a.size : Int) := by omega
  have hi : ¬ (600 : Int) < (b.size : Int) := by omega
  obtain ⟨o1, ho1⟩ : ∃ o, (Dc.readP a.data.toList).isSome = o := ⟨_, rfl⟩
  obtain ⟨o2, ho2⟩ : ∃ o, (Dc.readP b.data.toList).isSome = o := ⟨_, rfl⟩
  obtain ⟨T1, hT1⟩ : ∃ T : ByteArray, (⟨(Dc.addS a.data.toList b.data.toList).1.toArray⟩ : ByteArray) = T := ⟨_, rfl⟩
  obtain ⟨T2, hT2⟩ : ∃ T : ByteArray, (⟨(Dc.mulS a.data.toList b.data.toList).1.toArray⟩ : ByteArray) = T := ⟨_, rfl⟩
  obtain ⟨g1, hg1⟩ : ∃ g : Int, ((Dc.addS a.data.toList b.data.toList).2 : Int) = g := ⟨_, rfl⟩
  obtain ⟨g2, hg2⟩ : ∃ g : Int, ((Dc.mulS a.data.toList b.data.toList).2 : Int) = g := ⟨_, rfl⟩
  obtain ⟨c, hc⟩ : ∃ c, Dc.cmpS a.data.toList b.data.toList = c := ⟨_, rfl⟩
  have hbad : o1 = false ∨ o2 = false → T1 = ⟨#[]⟩ ∧ g1 = 3 ∧ T2 = ⟨#[]⟩ ∧ g2 = 3 ∧ c = 0 := by
    intro h
    have hn : Dc.readP a.data.toList = none ∨ Dc.readP b.data.toList = none := by
      rcases h with h | h
      · left; rw [h] at ho1; exact Option.not_isSome_iff_eq_none.1 (by rw [ho1]; simp)
      · right; rw [h] at ho2; exact Option.not_isSome_iff_eq_none.1 (by rw [ho2]; simp)
    have e1 : Dc.addS a.data.toList b.data.toList = ([], 3) := by
      rw [Dc.addS]
      rcases hn with h | h
      · rw [h]
      · rw [h]; cases Dc.readP a.data.toList <;> rfl
    have e2 : Dc.mulS a.data.toList b.data.toList = ([], 3) := by
      rw [Dc.mulS]
      rcases hn with h | h
      · rw [h]
      · rw [h]; cases Dc.readP a.data.toList <;> rfl
    have e3 : Dc.cmpS a.data.toList b.data.toList = 0 := by
      rw [Dc.cmpS]
      rcases hn with h | h
      · rw [h]
      · rw [h]; cases Dc.readP a.data.toList <;> rfl
    rw [e1] at hT1 hg1
    rw [e2] at hT2 hg2
    rw [e3] at hc
    exact ⟨hT1.symm, hg1.symm, hT2.symm, hg2.symm, hc.symm⟩
  have RA := Lib.hid (fun W => rd_any a W (by omega))
  have RB := Lib.hid (fun W => rd_any b W (by omega))
  have AD : Hid (∀ W, Laid W → Calls Tryz.prog 6 #[.string a, .string b] W fun x w' => x = .returned (.tuple #[.string T1, .int .i64 g1]) ∧ Below W.heap.size W w') := Lib.hid fun W hW => by
    have := add_2 a b W (by omega) (by omega) hW
    rw [val2, hT1, hg1] at this; exact this
  have ML : Hid (∀ W, Laid W → Calls Tryz.prog 7 #[.string a, .string b] W fun x w' => x = .returned (.tuple #[.string T2, .int .i64 g2]) ∧ Below W.heap.size W w') := Lib.hid fun W hW => by
    have := mul_2 a b W (by omega) (by omega) hW
    rw [val2, hT2, hg2] at this; exact this
  have CM : Hid (∀ W, Laid W → Calls Tryz.prog 8 #[.string a, .string b] W fun x w' => x = .returned (.int .i64 c) ∧ Below W.heap.size W w') := Lib.hid fun W hW => by
    have := cmp_any a b W (by omega) (by omega) hW
    rw [hc] at this; exact this
  rw [ho1] at RA
  rw [ho2] at RB
  have HBAD := Lib.hid hbad
  have HE := Lib.hid (And.intro hT1 (And.intro hT2 (And.intro hg1 (And.intro hg2 hc))))
  clear ho1 ho2 hT1 hT2 hg1 hg2 hc hbad ha hb
  go_enter Tryz.func3, Tryz.ntmps3
  go_wp2_with fail
  refine (AW.out).mono ?_
  rintro x w1 ⟨rfl, hb1⟩
  go_wp2_with fail
  refine (RA.out _).mono ?_
  rintro x w2 ⟨gx, A1, n1, c1, ex, lx, rfl, hx, hb2⟩
  have HX := Lib.hid hx
  clear hx
  go_upto_region 6 with fail
  have hX := heap_alloc_new w2 (.cells #[.bool gx, .slice A1 n1 c1, .int .i64 ex] 25)
  obtain ⟨X, hXs⟩ : ∃ X, w2.heap.size = X := ⟨_, rfl⟩
  have hb3 : Below w2.heap.size w2 (w2.alloc (.cells #[.bool gx, .slice A1 n1 c1, .int .i64 ex] 25)) := (Below.refl _ _).alloc (Nat.le_refl _) _
  have hx3 : o1 = true → Dc.readP a.data.toList = some ⟨gx, lx, ex⟩ ∧ Reads (w2.alloc (.cells #[.bool gx, .slice A1 n1 c1, .int .i64 ex] 25)) (w2.alloc (.cells #[.bool gx, .slice A1 n1 c1, .int .i64 ex] 25)).heap.size A1 n1 (i64s lx) := fun h => ⟨(HX.out h).1, (HX.out h).2.on hb3⟩
  have hb13 : Below w.heap.size w (w2.alloc (.cells #[.bool gx, .slice A1 n1 c1, .int .i64 ex] 25)) := l_trans (l_trans hb1 hb2) hb3
  rw [hXs] at hX
  rw [hXs]
  obtain ⟨w3, hw3⟩ : ∃ w3, w2.alloc (.cells #[.bool gx, .slice A1 n1 c1, .int .i64 ex] 25) = w3 := ⟨_, rfl⟩
  rw [hw3] at hX hx3 hb13
  rw [hw3]
  have HX3 := Lib.hid hX
  have HR3 := Lib.hid hx3
  clear hX hx3 HX hw3 hXs hb3 hb1 hb2
  go_wp2_with fail
  refine (RB.out _).mono ?_
  rintro x w4 ⟨gy, A2, n2, c2, ey, ly, rfl, hy, hb4⟩
  have hX4 := (hb4.block X (lt_of_block HX3.out)).trans HX3.out
  have hr4 : o1 = true → Dc.readP a.data.toList = some ⟨gx, lx, ex⟩ ∧ Reads w4 w4.heap.size A1 n1 (i64s lx) := fun h => ⟨(HR3.out h).1, (HR3.out h).2.on hb4⟩
  have hb14 : Below w.heap.size w w4 := l_trans hb13 hb4
  have HX4 := Lib.hid hX4
  have HR4 := Lib.hid (And.intro hr4 hy)
  clear HX3 HR3 hb4 hb13 hX4 hr4 hy
  go_upto_region 7 with fail
  have hY := heap_alloc_new w4 (.cells #[.bool gy, .slice A2 n2 c2, .int .i64 ey] 25)
  obtain ⟨Y, hYs⟩ : ∃ Y, w4.heap.size = Y := ⟨_, rfl⟩
  have hb5 : Below w4.heap.size w4 (w4.alloc (.cells #[.bool gy, .slice A2 n2 c2, .int .i64 ey] 25)) := (Below.refl _ _).alloc (Nat.le_refl _) _
  have hX5 := (hb5.block X (lt_of_block HX4.out)).trans HX4.out
  have hr5 : o1 = true → Dc.readP a.data.toList = some ⟨gx, lx, ex⟩ ∧ Reads (w4.alloc (.cells #[.bool gy, .slice A2 n2 c2, .int .i64 ey] 25)) (w4.alloc (.cells #[.bool gy, .slice A2 n2 c2, .int .i64 ey] 25)).heap.size A1 n1 (i64s lx) := fun h => ⟨(HR4.out.1 h).1, (HR4.out.1 h).2.on hb5⟩
  have hr5' : o2 = true → Dc.readP b.data.toList = some ⟨gy, ly, ey⟩ ∧ Reads (w4.alloc (.cells #[.bool gy, .slice A2 n2 c2, .int .i64 ey] 25)) (w4.alloc (.cells #[.bool gy, .slice A2 n2 c2, .int .i64 ey] 25)).heap.size A2 n2 (i64s ly) := fun h => ⟨(HR4.out.2 h).1, (HR4.out.2 h).2.on hb5⟩
  have hbz : Below w.heap.size w (w4.alloc (.cells #[.bool gy, .slice A2 n2 c2, .int .i64 ey] 25)) := l_trans hb14 hb5
  rw [hYs] at hY
  rw [hYs]
  obtain ⟨w5, hw5⟩ : ∃ w5, w4.alloc (.cells #[.bool gy, .slice A2 n2 c2, .int .i64 ey] 25) = w5 := ⟨_, rfl⟩
  rw [hw5] at hX5 hr5 hr5' hbz hY
  rw [hw5]
  have HC := Lib.hid (two_boxes hX5 hY)
  have HL5 := Lib.hid (HL.out.on hbz)
  have HR5 := Lib.hid hr5
  have HR5' := Lib.hid hr5'
  have hdd : Below w5.heap.size w5 w5 := Below.refl _ _
  clear hw5 hX5 hr5 hr5' hY hYs hb5 HX4 HR4 hb14
  go_wp2_with fail
  refine (AD.out _ HL5.out).mono ?_
  rintro x w6 ⟨rfl, hb6⟩
  go_wp2_with fail
  refine (ML.out _ (HL5.out.on hb6)).mono ?_
  rintro x w7 ⟨rfl, hb7⟩
  have hb7 := l_trans hb6 hb7
  go_wp2_with fail
  refine (CM.out _ (HL5.out.on hb7)).mono ?_
  rintro x w8 ⟨rfl, hb8⟩
  have hb8 := l_trans hb7 hb8
  obtain ⟨x0, x1, x2, y0, y1, y2, _⟩ := HC.out _ hb8
  cases o1 with
  | false =>
    obtain ⟨rfl, rfl, rfl, rfl, rfl⟩ := HBAD.out (Or.inl rfl)
    go_wp2_with fail
    go_ret
    exact ⟨rfl, l_trans hbz hb8⟩
  | true =>
    cases o2 with
    | false =>
      obtain ⟨rfl, rfl, rfl, rfl, rfl⟩ := HBAD.out (Or.inr rfl)
      go_wp2_with fail
      go_ret
      exact ⟨rfl, l_trans hbz hb8⟩
    | true =>
      obtain ⟨r1, hr1⟩ := HR5.out rfl
      obtain ⟨r2, hr2⟩ := HR5'.out rfl
      obtain ⟨gP, gQ, lP, lQ, eP, eQ, nP, nQ, k1, k2, k3, k4, k5⟩ := good_calls r1 r2 gx gy lx ly ex ey rfl rfl A1 A2 n1 n2 c1 c2 T1 T2 g1 g2 c HE.out.1 HE.out.2.1 HE.out.2.2.1 HE.out.2.2.2.1 HE.out.2.2.2.2
      obtain ⟨f1, hf1⟩ := few_any gx A1 n1 c1 ex
      obtain ⟨f2, hf2⟩ := few_any gy A2 n2 c2 ey
      have F1 := Lib.hid hf1
      have F2 := Lib.hid hf2
      have RP := Lib.hid k1
      have RQ := Lib.hid k2
      have IP := Lib.hid k3
      have IQ := Lib.hid k4
      have RC := Lib.hid k5
      have HRX := Lib.hid hr1
      have HRY := Lib.hid hr2
      clear r1 r2 hr1 hr2 k1 k2 k3 k4 k5 hf1 hf2 HR5 HR5' HE HBAD hb6 hb7
      go_wp2_with fail
      refine (F1.out _).mono ?_
      rintro x w9 ⟨rfl, hb9⟩
      have hb9 := l_trans hb8 hb9
      clear x0 x1 x2 y0 y1 y2
      obtain ⟨x0, x1, x2, y0, y1, y2, _⟩ := HC.out _ hb9
      cases f1 with
      | false =>
        go_wp2_with fail
        go_ret
        exact ⟨rfl, l_trans hbz hb9⟩
      | true =>
        go_wp2_with fail
        refine (F2.out _).mono ?_
        rintro x w10 ⟨rfl, hb10⟩
        have hb10 := l_trans hb9 hb10
        clear x0 x1 x2 y0 y1 y2
        obtain ⟨x0, x1, x2, y0, y1, y2, _⟩ := HC.out _ hb10
        cases f2 with
        | false =>
          go_wp2_with fail
          go_ret
          exact ⟨rfl, l_trans hbz hb10⟩
        | true =>
          go_upto_region 14 with fail
          go_cut [14, 15] (fun t14 t15 wx => ∃ G1 G2 A3 c3 A4 c4, t14 = .pointer (some ⟨G1, 0, none⟩) ∧ t15 = .pointer (some ⟨G2, 0, none⟩) ∧ wx.heap[G1]? = some (.cells #[.bool gP, .slice A3 nP c3, .int .i64 eP] 25 (0, 0)) ∧ wx.heap[G2]? = some (.cells #[.bool gQ, .slice A4 nQ c4, .int .i64 eQ] 25 (0, 0)) ∧ Reads wx wx.heap.size A3 nP (i64s lP) ∧ Reads wx wx.heap.size A4 nQ (i64s lQ) ∧ Below w5.heap.size w5 wx)
          case first =>
            go_region_held3 (fun W => W.cell? ⟨X, 0, none⟩ = some (.bool gx) ∧ W.cell? ⟨X, 1, none⟩ = some (.slice A1 n1 c1) ∧ W.cell? ⟨X, 2, none⟩ = some (.int .i64 ex) ∧ W.cell? ⟨Y, 0, none⟩ = some (.bool gy) ∧ W.cell? ⟨Y, 1, none⟩ = some (.slice A2 n2 c2) ∧ W.cell? ⟨Y, 2, none⟩ = some (.int .i64 ey) ∧ Below w5.heap.size w5 W)
              ((refine HC.out _ ?_; with_reducible (repeat' (first | assumption | exact p6 (by assumption) | exact b_drew hb10 | refine b_drew ?_ | refine b_alloc ?_ _ | refine b_set ?_ ?_ _ | exact hb10.size | exact hS11.size | exact hS12.size | exact Nat.le_succ_of_le hb10.size | exact Nat.le_succ_of_le hS11.size | exact Nat.le_succ_of_le hS12.size)); done))
              (first | (go_at_call 10; refine (RP.out _ (HRX.out.on (p6 (by assumption))) (HRY.out.on (p6 (by assumption)))).mono ?_; rintro x w11 ⟨A3, c3, rfl, ho11, hb11⟩; have hS11 := p6_trans (by assumption) hb11; first | (have Q2 := two_new (w := w10) (o := (.cells #[.bool false, .slice none 0 0, .int .i64 0] 25)) (o' := (.cells #[.bool false, .slice none 0 0, .int .i64 0] 25)) hb11 rfl; have O3 := own_base (base' := w10.heap.size + 2) ho11 (by show _ ≤ ((w10.alloc (.cells #[.bool false, .slice none 0 0, .int .i64 0] 25)).alloc (.cells #[.bool false, .slice none 0 0, .int .i64 0] 25)).heap.size; simp); have L11 : w10.heap.size + 2 ≤ w11.heap.size := lt_of_block Q2.2) | (have Q1 := one_new (w := w10) (o := (.cells #[.bool false, .slice none 0 0, .int .i64 0] 25)) hb11 rfl; have nq : w10.heap.size ≠ w11.heap.size := Nat.ne_of_lt (lt_of_block Q1); have nq' := nq.symm; have O3 := own_base (base' := w10.heap.size + 1) ho11 (by show _ ≤ (w10.alloc (.cells #[.bool false, .slice none 0 0, .int .i64 0] 25)).heap.size; simp); have L11 : w10.heap.size + 1 ≤ w11.heap.size := lt_of_block Q1) | (have O3 := own_base (base' := w10.heap.size) ho11 (Nat.le_refl _); have L11 : w10.heap.size ≤ w11.heap.size := hb11.size)) | (go_at_call 11; refine (RQ.out _ (HRX.out.on (p6 (by assumption))) (HRY.out.on (p6 (by assumption)))).mono ?_; rintro x w12 ⟨A4, c4, rfl, ho12, hb12⟩; have hS12 := p6_trans (by assumption) hb12; first | (have B1 := kept0 (w := w11) hb12 rfl Q2.1; have B2 := kept0 (w := w11) hb12 rfl Q2.2; obtain ⟨⟨a0, a1, a2, fa0, fa1, fa2⟩, ⟨ca0, ca1, ca2, fc0, fc1, fc2⟩, na, na'⟩ := box_facts B1; obtain ⟨⟨b0, b1, b2, fb0, fb1, fb2⟩, ⟨cb0, cb1, cb2, fd0, fd1, fd2⟩, nb, nb'⟩ := box_facts B2; have O4 := own_base (base' := w11.heap.size + 0) ho12 (by show _ ≤ w11.heap.size; simp); have L12 : w11.heap.size + 0 ≤ w12.heap.size := Nat.le_trans (by show _ ≤ w11.heap.size; simp) hb12.size; have D12 : Below w11.heap.size w11 w12 := hb12) | (have B1 := kept1 (w := w11) (o' := (.cells #[.bool false, .slice none 0 0, .int .i64 0] 25)) hb12 rfl Q1; have B2 := one_new (w := w11) (o := (.cells #[.bool false, .slice none 0 0, .int .i64 0] 25)) hb12 rfl; obtain ⟨⟨a0, a1, a2, fa0, fa1, fa2⟩, ⟨ca0, ca1, ca2, fc0, fc1, fc2⟩, na, na'⟩ := box_facts B1; obtain ⟨⟨b0, b1, b2, fb0, fb1, fb2⟩, ⟨cb0, cb1, cb2, fd0, fd1, fd2⟩, nb, nb'⟩ := box_facts B2; have O4 := own_base (base' := w11.heap.size + 1) ho12 (by show _ ≤ (w11.alloc (.cells #[.bool false, .slice none 0 0, .int .i64 0] 25)).heap.size; simp); have L12 : w11.heap.size + 1 ≤ w12.heap.size := Nat.le_trans (by show _ ≤ (w11.alloc (.cells #[.bool false, .slice none 0 0, .int .i64 0] 25)).heap.size; simp) hb12.size; have D12 : Below w11.heap.size w11 w12 := l_trans (b_alloc (Below.refl _ _) _) hb12) | (have B1 := kept0 (w := w11) hb12 rfl Q1; obtain ⟨⟨a0, a1, a2, fa0, fa1, fa2⟩, ⟨ca0, ca1, ca2, fc0, fc1, fc2⟩, na, na'⟩ := box_facts B1; have O4 := own_base (base' := w11.heap.size + 0) ho12 (by show _ ≤ w11.heap.size; simp); have L12 : w11.heap.size + 0 ≤ w12.heap.size := Nat.le_trans (by show _ ≤ w11.heap.size; simp) hb12.size; have D12 : Below w11.heap.size w11 w12 := hb12) | (have B0 := two_new (w := w11) (o := (.cells #[.bool false, .slice none 0 0, .int .i64 0] 25)) (o' := (.cells #[.bool false, .slice none 0 0, .int .i64 0] 25)) hb12 rfl; have B1 := B0.1; have B2 := B0.2; obtain ⟨⟨a0, a1, a2, fa0, fa1, fa2⟩, ⟨ca0, ca1, ca2, fc0, fc1, fc2⟩, na, na'⟩ := box_facts B1; obtain ⟨⟨b0, b1, b2, fb0, fb1, fb2⟩, ⟨cb0, cb1, cb2, fd0, fd1, fd2⟩, nb, nb'⟩ := box_facts B2; have O4 := own_base (base' := w11.heap.size + 2) ho12 (by show _ ≤ ((w11.alloc (.cells #[.bool false, .slice none 0 0, .int .i64 0] 25)).alloc (.cells #[.bool false, .slice none 0 0, .int .i64 0] 25)).heap.size; simp); have L12 : w11.heap.size + 2 ≤ w12.heap.size := Nat.le_trans (by show _ ≤ ((w11.alloc (.cells #[.bool false, .slice none 0 0, .int .i64 0] 25)).alloc (.cells #[.bool false, .slice none 0 0, .int .i64 0] 25)).heap.size; simp) hb12.size; have D12 : Below w11.heap.size w11 w12 := l_trans (b_alloc (b_alloc (Below.refl _ _) _) _) hb12) | (have B1 := one_new (w := w11) (o := (.cells #[.bool false, .slice none 0 0, .int .i64 0] 25)) hb12 rfl; obtain ⟨⟨a0, a1, a2, fa0, fa1, fa2⟩, ⟨ca0, ca1, ca2, fc0, fc1, fc2⟩, na, na'⟩ := box_facts B1; have O4 := own_base (base' := w11.heap.size + 1) ho12 (by show _ ≤ (w11.alloc (.cells #[.bool false, .slice none 0 0, .int .i64 0] 25)).heap.size; simp); have L12 : w11.heap.size + 1 ≤ w12.heap.size := Nat.le_trans (by show _ ≤ (w11.alloc (.cells #[.bool false, .slice none 0 0, .int .i64 0] 25)).heap.size; simp) hb12.size; have D12 : Below w11.heap.size w11 w12 := l_trans (b_alloc (Below.refl _ _) _) hb12) | (have O4 := own_base (base' := w11.heap.size + 0) ho12 (by show _ ≤ w11.heap.size; simp); have L12 : w11.heap.size + 0 ≤ w12.heap.size := Nat.le_trans (by show _ ≤ w11.heap.size; simp) hb12.size; have D12 : Below w11.heap.size w11 w12 := hb12)))
            all_goals go_wp2_with fail
            all_goals go_meet
            all_goals have hz10 := hb10.size
            all_goals have hz11 := hS11.size
            all_goals have hz12 := hS12.size
            all_goals refine ⟨_, _, A3, c3, A4, c4, rfl, rfl, ?_⟩
            all_goals first
              | (with_reducible refine close14 O3 O4 D12 (finA hS12) ?_ ?_ ?_ ?_)
              | (with_reducible refine close14 O3 O4 D12 (finA' hS12) ?_ ?_ ?_ ?_)
              | (with_reducible refine close14 O3 O4 D12 (finB hS12 B1 ?_) ?_ ?_ ?_ ?_)
              | (with_reducible refine close14 O3 O4 D12 (finC hS12 B1 ?_) ?_ ?_ ?_ ?_)
              | (with_reducible refine close14 O3 O4 D12 (finD hS12 B1 B2 ?_ ?_ ?_) ?_ ?_ ?_ ?_)
              | (with_reducible refine close14 O3 O4 D12 (finD hS12 B2 B1 ?_ ?_ ?_) ?_ ?_ ?_ ?_)
            all_goals omega
          case rest =>
            obtain ⟨G1, G2, A3, c3, A4, c4, rfl, rfl, hG1, hG2, hr3, hr4, hb13⟩ := hcut
            obtain ⟨w13, hw13⟩ : ∃ W, W = wc := ⟨_, rfl⟩
            subst hw13
            have HC2 := Lib.hid (two_boxes hG1 hG2)
            have HR3 := Lib.hid hr3
            have HR4 := Lib.hid hr4
            clear x0 x1 x2 y0 y1 y2 hG1 hG2 hr3 hr4
            obtain ⟨x0, x1, x2, y0, y1, y2, _⟩ := HC.out _ hb13
            obtain ⟨p0, p1, p2, q0, q1, q2, _⟩ := HC2.out _ (Below.refl _ _)
            go_wp2_with fail
            refine (IP.out _ _ _ HR3.out).mono ?_
            rintro x w14 ⟨rfl, hb14⟩
            have hbz14 := l_trans hb13 hb14
            clear x0 x1 x2 y0 y1 y2 p0 p1 p2 q0 q1 q2
            obtain ⟨x0, x1, x2, y0, y1, y2, _⟩ := HC.out _ hbz14
            obtain ⟨p0, p1, p2, q0, q1, q2, _⟩ := HC2.out _ hb14
            go_wp2_with fail
            refine (IQ.out _ _ _ (HR4.out.on hb14)).mono ?_
            rintro x w15 ⟨rfl, hb15⟩
            have hbz15 := l_trans hbz14 hb15
            clear x0 x1 x2 y0 y1 y2 p0 p1 p2 q0 q1 q2
            obtain ⟨x0, x1, x2, y0, y1, y2, _⟩ := HC.out _ hbz15
            go_wp2_with fail
            refine (RC.out _ (HRX.out.on hbz15) (HRY.out.on hbz15)).mono ?_
            rintro x w16 ⟨rfl, hb16⟩
            go_wp2_with fail
            go_ret
            exact ⟨rfl, l_trans hbz (l_trans hbz15 hb16)⟩
end Go.Proofs.YtmgafnflkfbckaaGreatDoor
