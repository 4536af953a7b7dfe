/- Three numbers' blocks; the contract of product. -/
import Derived.Test.YtmgafnflkfbckaaGreatDoorWalkAE
import Derived.Test.YtmgafnflkfbckaaGreatDoorWalkA
import Derived.Test.YtmgafnflkfbckaaGreatDoorPlain10
import Derived.StillTailTactics
namespace Go.Proofs.YtmgafnflkfbckaaGreatDoor
open Go.RowKit Go.Lib

theorem Row.other {w : World} {g cap : Nat} {t : TypeId} {xs : List Value} (h : Row w g t cap xs) {p : Addr} (hne : g ≠ p.block) (v : Value) : Row (w.setCell p v) g t cap xs := by
  obtain ⟨cur, hg, hr⟩ := h
  exact ⟨cur, by rw [Below.heap_setCell _ _ _ _ hne]; exact hg, hr⟩
/-- Two numbers boxed and a result's block. -/
theorem box_three (t : TypeId) (g : Bool) (A : Option Addr) (n c : Nat) (e : Int) (g' : Bool) (A' : Option Addr) (n' c' : Nat) (e' : Int) (w : World) :
    ∃ (w2 : World) (X : Nat), ((w.alloc (.cells #[.bool g, .slice A n c, .int .i64 e] t)).alloc (.cells #[.bool g', .slice A' n' c', .int .i64 e'] t)).alloc (.cells #[.bool false, .slice none 0 0, .int .i64 0] t) = w2 ∧ w.heap.size = X ∧ Below X w w2 ∧ w2.heap.size = X + 3 ∧ w2.heap[X + 2]? = some (.cells #[.bool false, .slice none 0 0, .int .i64 0] t (0, 0)) ∧
    ∀ W, Below (X + 3) w2 W → (W.cell? ⟨X, 0, none⟩ = some (.bool g) ∧ W.cell? ⟨X, 1, none⟩ = some (.slice A n c) ∧ W.cell? ⟨X, 2, none⟩ = some (.int .i64 e)) ∧
      (W.cell? ⟨X + 1, 0, none⟩ = some (.bool g') ∧ W.cell? ⟨X + 1, 1, none⟩ = some (.slice A' n' c') ∧ W.cell? ⟨X + 1, 2, none⟩ = some (.int .i64 e')) ∧
      (W.cell? ⟨X + 2, 0, none⟩ = some (.bool false) ∧ W.cell? ⟨X + 2, 1, none⟩ = some (.slice none 0 0) ∧ W.cell? ⟨X + 2, 2, none⟩ = some (.int .i64 0)) ∧
      (W.frozen? ⟨X + 2, 0, none⟩ = false ∧ W.frozen? ⟨X + 2, 1, none⟩ = false ∧ W.frozen? ⟨X + 2, 2, none⟩ = false) := by
  obtain ⟨X, hX⟩ : ∃ X, w.heap.size = X := ⟨_, rfl⟩
  obtain ⟨wa, hwa⟩ : ∃ wa, w.alloc (.cells #[.bool g, .slice A n c, .int .i64 e] t) = wa := ⟨_, rfl⟩
  obtain ⟨wb, hwb⟩ : ∃ wb, wa.alloc (.cells #[.bool g', .slice A' n' c', .int .i64 e'] t) = wb := ⟨_, rfl⟩
  obtain ⟨wd, hwd⟩ : ∃ wd, wb.alloc (.cells #[.bool false, .slice none 0 0, .int .i64 0] t) = wd := ⟨_, rfl⟩
  have sa : wa.heap.size = X + 1 := by rw [← hwa, ← hX]; simp
  have sb : wb.heap.size = X + 2 := by rw [← hwb]; simp [sa]
  have sd : wd.heap.size = X + 3 := by rw [← hwd]; simp [sb]
  have ba : wa.heap[X]? = some (.cells #[.bool g, .slice A n c, .int .i64 e] t (0, 0)) := by rw [← hwa, ← hX]; exact heap_alloc_new w _
  have bb : wb.heap[X + 1]? = some (.cells #[.bool g', .slice A' n' c', .int .i64 e'] t (0, 0)) := by rw [← hwb, ← sa]; exact heap_alloc_new wa _
  have bd : wd.heap[X + 2]? = some (.cells #[.bool false, .slice none 0 0, .int .i64 0] t (0, 0)) := by rw [← hwd, ← sb]; exact heap_alloc_new wb _
  have ba' : wd.heap[X]? = some (.cells #[.bool g, .slice A n c, .int .i64 e] t (0, 0)) := by
    rw [← hwd, Below.heap_alloc _ _ _ (by omega), ← hwb, Below.heap_alloc _ _ _ (by omega)]; exact ba
  have bb' : wd.heap[X + 1]? = some (.cells #[.bool g', .slice A' n' c', .int .i64 e'] t (0, 0)) := by
    rw [← hwd, Below.heap_alloc _ _ _ (by omega)]; exact bb
  have hb : Below X w wd := by
    rw [← hwd, ← hwb, ← hwa, ← hX]
    exact (((Below.refl _ _).alloc (Nat.le_refl _) _).alloc (by simp) _).alloc (by simp; omega) _
  refine ⟨wd, X, by rw [hwa, hwb, hwd], hX, hb, sd, bd, fun W hW => ?_⟩
  have h1 := (hW.block X (by omega)).trans ba'
  have h2 := (hW.block (X + 1) (by omega)).trans bb'
  have h3 := (hW.block (X + 2) (by omega)).trans bd
  exact ⟨⟨at_block h1 0 _ rfl, at_block h1 1 _ rfl, at_block h1 2 _ rfl⟩, ⟨at_block h2 0 _ rfl, at_block h2 1 _ rfl, at_block h2 2 _ rfl⟩, ⟨at_block h3 0 _ rfl, at_block h3 1 _ rfl, at_block h3 2 _ rfl⟩, free_block h3 0, free_block h3 1, free_block h3 2⟩

set_option maxHeartbeats 2000000 in
set_option maxRecDepth 100000 in
theorem product_any (g : Bool) (A : Option Addr) (n : Nat) (l : List Nat) (e : Int) (g' : Bool) (A' : Option Addr) (m : Nat) (l' : List Nat) (e' : Int) (w : World)
    (hr : Reads w w.heap.size A n (u8s l)) (hr' : Reads w w.heap.size A' m (u8s l')) (hd : Dc.Digs l) (hd' : Dc.Digs l') (hn : n ≤ 10000) (hm : m ≤ 10000) (he : -10000 ≤ e ∧ e ≤ 10000) (he' : -10000 ≤ e' ∧ e' ≤ 10000) :
    Calls Tryz.prog 22 #[.agg #[.bool g, .slice A n n, .int .i64 e], .agg #[.bool g', .slice A' m m, .int .i64 e']] w fun x w' => ∃ v, x = .returned v ∧ NumAt w' v (Dc.prodP ⟨g, l, e⟩ ⟨g', l', e'⟩) ∧ Below w.heap.size w w' := by
  have hln : l.length = n := by have := hr.1; rwa [u8s_len] at this
  have hlm : l'.length = m := by have := hr'.1; rwa [u8s_len] at this
  obtain ⟨R, hR⟩ : ∃ R, Dc.prodP ⟨g, l, e⟩ ⟨g', l', e'⟩ = R := ⟨_, rfl⟩
  rw [hR]
  obtain ⟨w2, X, hw2, hX, hb2, hsz, hZZ, hcells⟩ := box_three 46 g A n n e g' A' m m e' w
  have hrX : Reads w X A n (u8s l) := hX ▸ hr
  have hrX' : Reads w X A' m (u8s l') := hX ▸ hr'
  have HW2 := Lib.hid hw2
  have HX := Lib.hid hX
  have HC := Lib.hid hcells
  have HZZ := Lib.hid hZZ
  have HSZ := Lib.hid hsz
  clear hZZ
  have HLN := Lib.hid (And.intro hln hlm)
  have HD := Lib.hid (And.intro hd hd')
  have HR := Lib.hid hR
  have hd2 : Below (X + 3) w2 w2 := Below.refl _ _
  obtain ⟨⟨p0, p1, p2⟩, ⟨q0, q1, q2⟩, ⟨z0, z1, z2⟩, f0, f1, f2⟩ := hcells w2 hd2
  clear hw2 hX hcells hr hr' hln hlm hd hd' hR
  by_cases h0 : n = 0 ∨ m = 0
  · have hRz : R = ⟨false, [], 0⟩ := by
      rw [← HR.out, Dc.prodP_nil]
      show l = [] ∨ l' = []
      rcases h0 with h | h
      · left; exact List.length_eq_zero_iff.1 (by have := HLN.out.1; omega)
      · right; exact List.length_eq_zero_iff.1 (by have := HLN.out.2; omega)
    have HRZ := Lib.hid hRz
    have fin : ∀ W, W = ((w2.setCell ⟨X + 2, 0, none⟩ (.bool false)).setCell ⟨X + 2, 1, none⟩ (.slice none 0 0)).setCell ⟨X + 2, 2, none⟩ (.int .i64 0) → ∃ v, Ending.returned (.agg #[.bool false, .slice none 0 0, .int .i64 0]) = .returned v ∧ NumAt W v R ∧ Below w.heap.size w W := by
      intro W hW
      subst hW
      have hbE := ((hb2.setCell (p := ⟨X + 2, 0, none⟩) (by show X ≤ X + 2; omega) (.bool false)).setCell (p := ⟨X + 2, 1, none⟩) (by show X ≤ X + 2; omega) (.slice none 0 0)).setCell (p := ⟨X + 2, 2, none⟩) (by show X ≤ X + 2; omega) (.int .i64 0)
      exact ⟨_, rfl, ⟨none, by rw [HRZ.out]; rfl, by rw [HRZ.out]; exact Reads.none_⟩, by rw [HX.out]; exact hbE⟩
    have hcase : n = 0 ∨ (¬ n = 0 ∧ m = 0) := by omega
    clear h0 hRz
    rcases hcase with h1 | ⟨h1, h2⟩
    · subst h1
      go_enter Tryz.func22, Tryz.ntmps22
      go_upto_region 1 with fail
      rw [HW2.out, HX.out]
      go_wp2_with fail
      refine bodyPost_ret (v := .agg #[.bool false, .slice none 0 0, .int .i64 0]) (by simp [results, Tryz.results22, go_sem, z0, z1, z2]) rfl ?_
      exact fin _ rfl
    · subst h2
      have hf : ((n : Int) == 0) = false := by simp; omega
      go_enter Tryz.func22, Tryz.ntmps22
      go_upto_region 1 with fail
      rw [HW2.out, HX.out]
      go_wp2_with fail
      refine bodyPost_ret (v := .agg #[.bool false, .slice none 0 0, .int .i64 0]) (by simp [results, Tryz.results22, go_sem, z0, z1, z2]) rfl ?_
      exact fin _ rfl
  · have hf : ((n : Int) == 0) = false := by simp; omega
    have hf' : ((m : Int) == 0) = false := by simp; omega
    have hn0 : 0 < n := by omega
    have hm0 : 0 < m := by omega
    obtain ⟨T, hT⟩ : ∃ T, n + m = T := ⟨_, rfl⟩
    have hTi : (n : Int) + (m : Int) = (T : Int) := by omega
    have hmk := fun W => make_ints T (by omega) W
    have HT := Lib.hid hT
    obtain ⟨Z, hZ⟩ : ∃ Z, i64s (List.replicate T 0) = Z := ⟨_, rfl⟩
    rw [hZ] at hmk
    have HZ := Lib.hid hZ
    clear h0 hT hZ
    go_enter Tryz.func22, Tryz.ntmps22
    go_upto_region 1 with fail
    rw [HW2.out, HX.out]
    go_upto_region 4 with fail
    rw [show X + 1 + 1 = X + 2 from rfl]
    have hb3 : Below (X + 3) w2 (w2.alloc (.cells Z.toArray 3)) := hd2.alloc (by omega) _
    have hO := heap_alloc_new w2 (.cells Z.toArray 3)
    rw [hsz] at hO
    obtain ⟨w3, hw3⟩ : ∃ w3, w2.alloc (.cells Z.toArray 3) = w3 := ⟨_, rfl⟩
    have hs3 : w3.heap.size = X + 4 := by rw [← hw3]; simp [hsz]
    rw [hw3] at hb3 hO
    rw [hw3]
    have hZl : Z.length = T := by rw [← HZ.out, i64s_len, List.length_replicate]
    have hrow3 : Row w3 (X + 3) 3 T (i64s (List.replicate T 0)) := by
      rw [HZ.out]
      exact ⟨Z.toArray, hO, by simp [hZl], by omega, by simp⟩
    have HROW := Lib.hid hrow3
    have hX4 : ∀ W, Below (X + 3) w2 W → W.heap.size = X + 4 → True := fun _ _ _ => trivial
    clear hw3 hO hZl hrow3 p0 p1 p2 q0 q1 q2 z0 z1 z2 f0 f1 f2 hX4
    obtain ⟨ab, aoff, hA, haB, hacl⟩ := hrX.2 hn0
    obtain ⟨bb, boff, hB, hbB, hbcl⟩ := hrX'.2 hm0
    subst hA hB
    have HACL := Lib.hid hacl
    have HBCL := Lib.hid hbcl
    clear hacl hbcl
    obtain ⟨⟨p0, p1, p2⟩, ⟨q0, q1, q2⟩, _⟩ := HC.out _ hb3
    go_upto_block 0 with fail
    go_cut [6, 7] (fun _ _ wx => ∃ L, Row wx (X + 3) 3 T (i64s L) ∧ L.length = T ∧ Dc.num L = Dc.num l * Dc.num l' ∧ (∀ v ∈ L, v ≤ 81 * n) ∧ Below (X + 3) w2 wx)
    case first =>
      go_wp2_with fail
      clear p0 p1 p2 q0 q1 q2
      go_loopg [6, 7] n (fun f i _ wx => ∃ (ii : Nat) (I : Int) (L : List Nat), i = .int .i64 I ∧ I + 1 = (ii : Int) ∧ ii ≤ n ∧ ii ≤ f ∧ L.length = T ∧ Dc.num L = Dc.num (l.drop ii) * Dc.num l' ∧ (∀ v ∈ L, v ≤ 81 * (n - ii)) ∧ Row wx (X + 3) 3 T (i64s L) ∧ Below (X + 3) w2 wx)
      case atStart =>
        refine ⟨n, (n : Int) - 1, List.replicate T 0, rfl, by omega, Nat.le_refl _, Nat.le_refl _, by simp, ?_, ?_, HROW.out, hb3⟩
        · rw [Dc.num_zeros, List.drop_eq_nil_of_le (by rw [HLN.out.1]; exact Nat.le_refl _), Dc.num, Nat.zero_mul]
        · intro v hv; rw [(List.mem_replicate.1 hv).2]; omega
      case round =>
        obtain ⟨ii, I, L, rfl, hI, hii, hf1, hLl, hLn, hLb, hrow, hbx⟩ := hrel
        rcases Nat.eq_zero_or_pos ii with h0 | h0
        · obtain rfl : I = -1 := by omega
          subst h0
          have HLL := Lib.hid (And.intro hLl (And.intro hLn hLb))
          have HRW := Lib.hid hrow
          clear hLl hLn hLb hrow
          go_wp2_with fail
          go_meet
          obtain ⟨h1, h2, h3⟩ := HLL.out
          exact ⟨L, HRW.out, h1, by rw [h2]; rfl, fun v hv => by have := h3 v hv; omega, hbx⟩
        · obtain ⟨q, rfl⟩ : ∃ q, ii = q + 1 := ⟨ii - 1, by omega⟩
          obtain rfl : I = (q : Int) := by omega
          obtain ⟨f, rfl⟩ : ∃ f, gk = f + 1 := ⟨gk - 1, by omega⟩
          obtain ⟨⟨p0, p1, p2⟩, ⟨q0, q1, q2⟩, _⟩ := HC.out _ hbx
          have hq0 : (0 : Int) ≤ (q : Int) := by omega
          have hqn : (q : Int) < (n : Int) := by omega
          obtain ⟨x, hx⟩ : ∃ x, l[q]? = some x := ⟨_, List.getElem?_eq_getElem (by rw [HLN.out.1]; omega)⟩
          have hx10 : x < 10 := HD.out.1 x (List.mem_of_getElem? hx)
          have HX0 := Lib.hid hx
          have HLL := Lib.hid (And.intro hLl (And.intro hLn hLb))
          have HRW := Lib.hid hrow
          clear hLl hLn hLb hrow hx hI
          go_wp2_with fail
          clear p0 p1 p2 q0 q1 q2
          go_loopg [7] m (fun f k wx => ∃ (kk : Nat) (K : Int) (L : List Nat), k = .int .i64 K ∧ K + 1 = (kk : Int) ∧ kk ≤ m ∧ kk ≤ f ∧ L.length = T ∧ Dc.num L = Dc.rowsAt l l' q kk ∧ (∀ j v, L[j]? = some v → j ≤ q + kk → v ≤ 81 * (n - 1 - q)) ∧ (∀ v ∈ L, v ≤ 81 * (n - q)) ∧ Row wx (X + 3) 3 T (i64s L) ∧ Below (X + 3) w2 wx)
          case atStart =>
            obtain ⟨h1, h2, h3⟩ := HLL.out
            have hrb : Dc.num L = Dc.rowsAt l l' q m := by
              have := Dc.rows_begin (a := l) (b := l') (i := q)
              rw [HLN.out.2] at this
              rw [h2, this]
            exact ⟨m, (m : Int) - 1, L, rfl, by omega, Nat.le_refl _, Nat.le_refl _, h1, hrb, fun j v hv _ => by have := h3 v (List.mem_of_getElem? hv); omega, fun v hv => by have := h3 v hv; omega, HRW.out, hbx⟩
          case round =>
            obtain ⟨kk, K, L2, rfl, hK, hkm, hf2, hLl, hLn, hLa, hLb, hrow, hby⟩ := hrel
            rcases Nat.eq_zero_or_pos kk with h0 | h0
            · obtain rfl : K = -1 := by omega
              subst h0
              have HLL2 := Lib.hid (And.intro hLl (And.intro hLn hLb))
              have HRW2 := Lib.hid hrow
              clear hLl hLn hLb hLa hrow hK
              go_wp2_with fail
              go_roundg f
              case measure => omega
              case rel =>
                obtain ⟨h1, h2, h3⟩ := HLL2.out
                exact ⟨q, (q : Int) - 1, L2, rfl, by omega, by omega, by omega, h1, by rw [h2, Dc.rows_end HX0.out], h3, HRW2.out, hby⟩
            · obtain ⟨r, rfl⟩ : ∃ r, kk = r + 1 := ⟨kk - 1, by omega⟩
              obtain rfl : K = (r : Int) := by omega
              obtain ⟨f3, rfl⟩ : ∃ f3, gk = f3 + 1 := ⟨gk - 1, by omega⟩
              obtain ⟨⟨p0, p1, p2⟩, ⟨q0, q1, q2⟩, _⟩ := HC.out _ hby
              have hr0 : (0 : Int) ≤ (r : Int) := by omega
              have hrm : (r : Int) < (m : Int) := by omega
              obtain ⟨y, hy⟩ : ∃ y, l'[r]? = some y := ⟨_, List.getElem?_eq_getElem (by rw [HLN.out.2]; omega)⟩
              have hy10 : y < 10 := HD.out.2 y (List.mem_of_getElem? hy)
              obtain ⟨p, hp⟩ : ∃ p, q + r + 1 = p := ⟨_, rfl⟩
              obtain ⟨v, hv⟩ : ∃ v, L2[p]? = some v := ⟨_, List.getElem?_eq_getElem (by have := HT.out; omega)⟩
              have hvb := hLa p v hv (by omega)
              have hcx : wr.cell? ⟨ab, aoff + q, none⟩ = some (.int .u8 (x : Int)) := (hb2.trans (hby.mono (by omega))).cell (p := ⟨ab, aoff + q, none⟩) haB |>.trans (HACL.out q _ (u8s_get HX0.out))
              have hcy : wr.cell? ⟨bb, boff + r, none⟩ = some (.int .u8 (y : Int)) := (hb2.trans (hby.mono (by omega))).cell (p := ⟨bb, boff + r, none⟩) hbB |>.trans (HBCL.out r _ (u8s_get hy))
              have hcv := hrow.at_ (i64s_get hv)
              have hfv := hrow.free p
              obtain ⟨s, hs⟩ : ∃ s, q + r = s := ⟨_, rfl⟩
              obtain ⟨z, hz⟩ : ∃ z, x * y = z := ⟨_, rfl⟩
              have hz81 : z ≤ 81 := by rw [← hz]; exact Nat.le_trans (Nat.mul_le_mul_right y (show x ≤ 9 by omega)) (by omega)
              have hvb2 : v ≤ 810000 := by omega
              have hw1 : IntKind.i64.wrap ((q : Int) + (r : Int)) = (s : Int) := by rw [← hs, Int.natCast_add]; exact IntWalk.i64_in _ (by omega)
              have hw2 : IntKind.i64.wrap ((s : Int) + 1) = (p : Int) := by rw [← hp, ← hs]; exact IntWalk.i64_in _ (by omega)
              have hw3 : IntKind.i64.wrap ((x : Int) * (y : Int)) = (z : Int) := by rw [← hz, Int.natCast_mul]; exact IntWalk.i64_in _ (by rw [← Int.natCast_mul, hz]; omega)
              have hw4 : IntKind.i64.wrap ((v : Int) + (z : Int)) = ((v + z : Nat) : Int) := IntWalk.i64_in _ (by omega)
              have hw5 : IntKind.i64.wrap (x : Int) = (x : Int) := IntWalk.i64_in _ (by omega)
              have hw6 : IntKind.i64.wrap (y : Int) = (y : Int) := IntWalk.i64_in _ (by omega)
              have hp0 : (0 : Int) ≤ (p : Int) := by omega
              have hpT : (p : Int) < (T : Int) := by have := HT.out; omega
              go_wp2_with fail
              go_still_tail 22, (by kernel_rfl)
              change wpList _ _ _ _ _ wr.drew
              have HF := Lib.hid (And.intro hLl (And.intro hLn (And.intro hLa hLb)))
              have HRW3 := Lib.hid hrow
              have HXY := Lib.hid (And.intro hy (And.intro hv (And.intro hp hz)))
              clear hLl hLn hLa hLb hrow hy hv hz hs hp
              go_wp2_with fail
              go_roundg f3
              case measure => omega
              case rel =>
                obtain ⟨h1, h2, h3, h4⟩ := HF.out
                obtain ⟨k1, k2, k3, k4⟩ := HXY.out
                have hr' := HRW3.out.set (i := p) (by rw [i64s_len, h1]; omega) (.int .i64 ((v + z : Nat) : Int))
                rw [← i64s_set'] at hr'
                refine ⟨r, (r : Int) - 1, L2.set p (v + z), rfl, by omega, by omega, by omega, by rw [List.length_set]; exact h1, ?_, ?_, ?_, ?_, ?_⟩
                · subst k3 k4
                  exact Dc.acc_step (by rw [h1, HLN.out.1, HLN.out.2, HT.out]) HX0.out k1 k2 h2
                · intro j u hu hjr
                  rw [List.getElem?_set_ne (by omega)] at hu
                  exact h3 j u hu (by omega)
                · intro u hu
                  rcases List.mem_or_eq_of_mem_set hu with hu | hu
                  · exact h4 u hu
                  · rw [hu]; omega
                · have h5 : Row (wr.setCell ⟨X + 3, p, none⟩ (.int .i64 ((v : Int) + (z : Int)))) (X + 3) 3 T (i64s (L2.set p (v + z))) := by simpa using hr'
                  exact h5
                · exact (hby.drew).setCell (p := ⟨X + 3, p, none⟩) (Nat.le_refl _) _
    case rest =>
      obtain ⟨L, hrow, hLl, hLn, hLb, hb4⟩ := hcut
      obtain ⟨w4, hw4⟩ : ∃ W, W = wc := ⟨_, rfl⟩
      subst hw4
      obtain ⟨Z5, hZ5⟩ : ∃ Z5, u8s (List.replicate T 0) = Z5 := ⟨_, rfl⟩
      have hmk5 := fun W => make_bytes T (by omega) W
      rw [hZ5] at hmk5
      have hZ5l : Z5.length = T := by rw [← hZ5, u8s_len, List.length_replicate]
      obtain ⟨V, hV⟩ : ∃ V, Dc.num l * Dc.num l' = V := ⟨_, rfl⟩
      have hVT : V < 10 ^ T := by
        have := Dc.prod_lt HD.out.1 HD.out.2
        rw [HLN.out.1, HLN.out.2, HT.out, hV] at this; exact this
      rw [hV] at hLn
      have HV := Lib.hid hV
      have HVT := Lib.hid hVT
      have HZ5 := Lib.hid hZ5
      have HZ5L := Lib.hid hZ5l
      have HLL := Lib.hid (And.intro hLl (And.intro hLn hLb))
      have HRW := Lib.hid hrow
      clear hZ5 hZ5l hV hVT hLl hLn hLb hrow p0 p1 p2 q0 q1 q2 hmk
      go_upto_region 12 with fail
      have hb5 : Below (X + 3) w2 (w4.alloc (.cells Z5.toArray 5)) := hb4.alloc (by have := hb4.size; omega) _
      have hH5 := heap_alloc_new w4 (.cells Z5.toArray 5)
      obtain ⟨H, hH⟩ : ∃ H, w4.heap.size = H := ⟨_, rfl⟩
      have hrow5 : Row (w4.alloc (.cells Z5.toArray 5)) (X + 3) 3 T (i64s L) := HRW.out.on ((Below.refl _ _).alloc (Nat.le_refl _) _)
      have hXH : X + 3 < H := by rw [← hH]; exact HRW.out.lt
      obtain ⟨w5, hw5⟩ : ∃ w5, w4.alloc (.cells Z5.toArray 5) = w5 := ⟨_, rfl⟩
      rw [hH] at hH5
      rw [hw5] at hb5 hH5 hrow5
      rw [hw5, hH]
      have hHrow : Row w5 H 5 T (u8s (List.replicate T 0 ++ [])) := by
        rw [List.append_nil, HZ5.out]
        exact ⟨Z5.toArray, hH5, by simp [HZ5L.out], by rw [HZ5L.out]; exact Nat.le_refl _, by simp⟩
      have HR5 := Lib.hid (And.intro hrow5 hHrow)
      clear hw5 hH hH5 hrow5 hHrow
      go_upto_block 4 with fail
      go_cut [9] (fun _ wx => ∃ B, Row wx H 5 T (u8s B) ∧ B.length = T ∧ Dc.Digs B ∧ Dc.num B = V ∧ Below (X + 3) w2 wx)
      case first =>
        go_wp2_with fail
        go_loopg [9] T (fun f i wx => ∃ (ii : Nat) (I : Int) (L B : List Nat), i = .int .i64 I ∧ I + 1 = (ii : Int) ∧ ii ≤ T ∧ ii ≤ f ∧ L.length = T ∧ ii + B.length = T ∧ Dc.Digs B ∧ Dc.num (L.take ii) * 10 ^ B.length + Dc.num B = V ∧
          (∀ j v, L[j]? = some v → j + 1 < ii → v ≤ 810000) ∧ (∀ j v, L[j]? = some v → j < ii → v ≤ 900000) ∧ Row wx (X + 3) 3 T (i64s L) ∧ Row wx H 5 T (u8s (List.replicate ii 0 ++ B)) ∧ Below (X + 3) w2 wx)
        case atStart =>
          obtain ⟨h1, h2, h3⟩ := HLL.out
          have hbnd : ∀ v ∈ L, v ≤ 810000 := fun v hv => by have := h3 v hv; omega
          refine ⟨T, (T : Int) - 1, L, [], rfl, by omega, Nat.le_refl _, Nat.le_refl _, h1, rfl, fun x hx => by simp at hx, ?_, fun j v hv _ => hbnd v (List.mem_of_getElem? hv), fun j v hv _ => by have := hbnd v (List.mem_of_getElem? hv); omega, HR5.out.1, HR5.out.2, hb5⟩
          rw [List.take_of_length_le (by omega), h2]; simp [Dc.num]
        case round =>
          obtain ⟨ii, I, L, B, rfl, hI, hii, hf1, hLl, hBl, hBd, hLn, hLa, hLb, hrow, hHr, hbx⟩ := hrel
          rcases Nat.eq_zero_or_pos ii with h0 | h0
          · obtain rfl : I = -1 := by omega
            subst h0
            have HF := Lib.hid (And.intro hBl (And.intro hBd hLn))
            have HHR := Lib.hid hHr
            clear hLl hBl hBd hLn hLa hLb hrow hHr hI
            go_wp2_with fail
            go_meet
            obtain ⟨h1, h2, h3⟩ := HF.out
            exact ⟨B, by simpa using HHR.out, by omega, h2, by simpa [Dc.num] using h3, hbx⟩
          · obtain ⟨q, rfl⟩ : ∃ q, ii = q + 1 := ⟨ii - 1, by omega⟩
            obtain rfl : I = (q : Int) := by omega
            obtain ⟨f, rfl⟩ : ∃ f, gk = f + 1 := ⟨gk - 1, by omega⟩
            obtain ⟨v, hv⟩ : ∃ v, L[q]? = some v := ⟨_, List.getElem?_eq_getElem (by omega)⟩
            have hvb := hLb q v hv (by omega)
            obtain ⟨d, hd⟩ : ∃ d, v % 10 = d := ⟨_, rfl⟩
            obtain ⟨c, hc⟩ : ∃ c, v / 10 = c := ⟨_, rfl⟩
            have hd10 : d < 10 := by omega
            have hcb : c ≤ 90000 := by omega
            have hm1 : (v : Int) % 10 = (d : Int) := by omega
            have hm2 : Int.tmod (v : Int) 10 = (d : Int) := by rw [Int.tmod_eq_emod_of_nonneg (by omega)]; exact hm1
            have hm3 : (v : Int) / 10 = (c : Int) := by omega
            have hm4 : Int.tdiv (v : Int) 10 = (c : Int) := by rw [Int.tdiv_eq_ediv_of_nonneg (by omega)]; exact hm3
            have hm5 : IntKind.u8.wrap (d : Int) = (d : Int) := by rw [IntKind.wrap_u8]; omega
            have hcv := hrow.at_ (i64s_get hv)
            have hqT : (q : Int) < (T : Int) := by omega
            have hq0 : (0 : Int) ≤ (q : Int) := by omega
            have hHq : (u8s (List.replicate (q + 1) 0 ++ B))[q]? = some (.int .u8 0) := by
              have : (List.replicate (q + 1) 0 ++ B)[q]? = some 0 := by
                rw [List.getElem?_append_left (by simp), List.getElem?_replicate, if_pos (by omega)]
              exact u8s_get this
            have hHc := hHr.at_ hHq
            have hHf := hHr.free q
            have hset : (List.replicate (q + 1) 0 ++ B).set q d = List.replicate q 0 ++ d :: B := by
              rw [List.replicate_succ', List.append_assoc, List.set_append_right _ _ (by simp), List.length_replicate, Nat.sub_self]; rfl
            have HSET := Lib.hid hset
            have hHlen : q < (u8s (List.replicate (q + 1) 0 ++ B)).length := by rw [u8s_len]; simp; omega
            have HHL := Lib.hid hHlen
            rcases Nat.eq_zero_or_pos q with hq | hq
            · subst hq
              have hend := Dc.pass_end (L := L) (B := B) hv hLn (by rw [show B.length + 1 = T by omega]; exact HVT.out)
              rw [hd] at hend
              have HE := Lib.hid hend
              have HF := Lib.hid (And.intro hLl (And.intro hBl hBd))
              have HRW6 := Lib.hid (And.intro hrow hHr)
              clear hLl hBl hBd hLn hLa hLb hrow hHr hI hv hd hc hset hHq hend hHlen
              go_wp2_with fail
              go_roundg f
              case measure => omega
              case rel =>
                obtain ⟨h1, h2, h3⟩ := HF.out
                have hr' := HRW6.out.2.set HHL.out (.int .u8 (d : Int))
                rw [← u8s_set', HSET.out] at hr'
                refine ⟨0, -1, L, d :: B, rfl, by omega, by omega, by omega, h1, by rw [List.length_cons]; omega, ?_, ?_, fun j v _ hj => by omega, fun j v _ hj => by omega, ?_, ?_, ?_⟩
                · intro y hy
                  rcases List.mem_cons.1 hy with rfl | hy
                  · exact hd10
                  · exact h3 y hy
                · rw [List.take_zero, Dc.num, Nat.zero_mul, Nat.zero_add]; exact HE.out.1
                · exact HRW6.out.1.other (by show X + 3 ≠ H; omega) _
                · exact hr'
                · exact hbx.setCell (p := ⟨H, 0, none⟩) (by show X + 3 ≤ H; omega) _
            · obtain ⟨q1, hq1⟩ : ∃ q1, q = q1 + 1 := ⟨q - 1, by omega⟩
              obtain ⟨u, hu⟩ : ∃ u, L[q1]? = some u := ⟨_, List.getElem?_eq_getElem (by omega)⟩
              have hub := hLa q1 u hu (by omega)
              have hcu := hrow.at_ (i64s_get hu)
              have hfu := hrow.free q1
              have hqp : (0 : Int) < (q : Int) := by omega
              have hw1 : IntKind.i64.wrap ((q : Int) - 1) = (q1 : Int) := by
                have h := IntWalk.i64_in ((q : Int) - 1) (by omega)
                rw [h]; omega
              have hw2 : IntKind.i64.wrap ((u : Int) + (c : Int)) = ((u + c : Nat) : Int) := IntWalk.i64_in _ (by omega)
              have hq1T : (q1 : Int) < (T : Int) := by omega
              have hq10 : (0 : Int) ≤ (q1 : Int) := by omega
              have hps := Dc.pass_step (L := L) (B := B) (q := q1) (v := v) (u := u) (T := T) (V := V) (by omega) (by rw [← hq1]; exact hv) hu (by rw [← hq1]; exact hLn)
              rw [hd, hc] at hps
              have HPS := Lib.hid hps
              have HF := Lib.hid (And.intro hLl (And.intro hBl (And.intro hBd (And.intro hLa hu))))
              have HRW6 := Lib.hid (And.intro hrow hHr)
              have HQ1 := Lib.hid hq1
              have hne : q1 ≠ q := by omega
              have hrow7 := (hrow.set (i := q1) (by rw [i64s_len]; omega) (.int .i64 ((u + c : Nat) : Int)))
              rw [← i64s_set'] at hrow7
              have hL7 : (L.set q1 (u + c))[q]? = some v := by rw [List.getElem?_set_ne hne]; exact hv
              have hcv7 := hrow7.at_ (i64s_get hL7)
              have hHr7 := hHr.other (p := ⟨X + 3, q1, none⟩) (by show H ≠ X + 3; omega) (.int .i64 ((u + c : Nat) : Int))
              have hHc7 := hHr7.at_ hHq
              have hHf7 := hHr7.free q
              have HRW7 := Lib.hid (And.intro hrow7 hHr7)
              clear hLl hBl hBd hLn hLa hLb hrow hHr hI hv hd hc hset hHq hps hHlen hu hq1 hrow7 hHr7 hL7
              go_wp2_with fail
              go_still_tail 12, (by kernel_rfl)
              change wpList _ _ _ _ _ wr.drew
              go_wp2_with fail
              go_roundg f
              case measure => omega
              case rel =>
                obtain ⟨h1, h2, h3, h4, h5⟩ := HF.out
                have k1 := HQ1.out
                have hr' := HRW7.out.2.set HHL.out (.int .u8 (d : Int))
                rw [← u8s_set', HSET.out] at hr'
                have hr2 := HRW7.out.1.other (p := ⟨H, q, none⟩) (by show X + 3 ≠ H; omega) (.int .u8 (d : Int))
                have hps := HPS.out
                rw [← k1] at hps
                refine ⟨q, (q1 : Int), L.set q1 (u + c), d :: B, rfl, by omega, by omega, by omega, by rw [List.length_set]; exact h1, by rw [List.length_cons]; omega, ?_, hps, ?_, ?_, ?_, ?_, ?_⟩
                · intro y hy
                  rcases List.mem_cons.1 hy with rfl | hy
                  · exact hd10
                  · exact h3 y hy
                · intro j y hy hj
                  rw [List.getElem?_set_ne (by omega)] at hy
                  exact h4 j y hy (by omega)
                · intro j y hy hj
                  by_cases hjq : j = q1
                  · subst hjq
                    rw [List.getElem?_set_self (by omega)] at hy
                    have := Option.some.inj hy
                    omega
                  · rw [List.getElem?_set_ne (by omega)] at hy
                    have := h4 j y hy (by omega)
                    omega
                · have h6 : Row ((wr.setCell ⟨X + 3, q1, none⟩ (.int .i64 ((u : Int) + (c : Int)))).setCell ⟨H, q, none⟩ (.int .u8 (d : Int))) (X + 3) 3 T (i64s (L.set q1 (u + c))) := by simpa using hr2
                  exact h6
                · have h6 : Row ((wr.setCell ⟨X + 3, q1, none⟩ (.int .i64 ((u : Int) + (c : Int)))).setCell ⟨H, q, none⟩ (.int .u8 (d : Int))) H 5 T (u8s (List.replicate q 0 ++ d :: B)) := by simpa using hr'
                  exact h6
                · exact ((hbx.setCell (p := ⟨X + 3, q1, none⟩) (Nat.le_refl _) _).setCell (p := ⟨H, q, none⟩) (by show X + 3 ≤ H; omega) _).drew
      case rest =>
        obtain ⟨B, hBrow, hBl, hBd, hBn, hb6⟩ := hcut
        obtain ⟨w6, hw6⟩ : ∃ W, W = wc := ⟨_, rfl⟩
        subst hw6
        obtain ⟨⟨p0, p1, p2⟩, ⟨q0, q1, q2⟩, _⟩ := HC.out _ hb6
        have hBe : B = Dc.digN T V := Dc.digN_is hBd hBl hBn
        obtain ⟨G, hG⟩ : ∃ G, (g != g') = G := ⟨_, rfl⟩
        have hG2 : (!(g == g')) = G := hG
        have hRe : Dc.norm G B (e + e') = R := by
          rw [← HR.out, Dc.prodP, hBe, ← hG]
          simp only
          rw [HLN.out.1, HLN.out.2, HT.out, HV.out]
        have hrd := hBrow.reads
        rw [u8s_len, hBl] at hrd
        obtain ⟨gr, lr, er, nr, hgr, hlr, her, hlnr, hrr⟩ := num_letters R
        have NO : Calls Tryz.prog 31 #[.bool G, .slice (some ⟨H, 0, none⟩) T T, .int .i64 (e + e')] w6 fun x w' => ∃ A', x = .returned (.agg #[.bool gr, .slice A' nr nr, .int .i64 er]) ∧ Reads w' w'.heap.size A' nr (u8s lr) ∧ Below w6.heap.size w6 w' := by
          refine (norm_any G (some ⟨H, 0, none⟩) T T B (e + e') w6 hrd (Nat.le_refl _) (by omega) (by omega)).mono ?_
          rintro x w' ⟨v, rfl, hv, hb⟩
          rw [hRe] at hv
          obtain ⟨A', rfl, hr'⟩ := hv
          rw [hlr, hlnr] at hr'
          exact ⟨A', by rw [hgr, hlr, hlnr, her], hr', hb⟩
        have NO := Lib.hid NO
        have HRR := Lib.hid hrr
        have HLR := Lib.hid hlnr
        have HG := Lib.hid hG2
        have hb6' := hb6
        have HB6 := Lib.hid hb6
        clear hBrow hBl hBd hBn hBe hRe hrd hgr hlr her hlnr hrr hb6 hb6' hG hG2
        go_wp2_with fail
        rw [HG.out]
        refine (NO.out).mono ?_
        rintro x w7 ⟨A9, rfl, hr7, hb7⟩
        have hsz6 : X + 3 ≤ w6.heap.size := by have := HB6.out.size; rw [HSZ.out] at this; exact this
        have hb27 : Below (X + 3) w2 w7 := HB6.out.trans (hb7.mono hsz6)
        obtain ⟨_, _, ⟨z0, z1, z2⟩, f0, f1, f2⟩ := HC.out _ hb27
        have HR7 := Lib.hid hr7
        have HB27 := Lib.hid hb27
        clear hr7 hb27 hb7 hsz6
        go_wp2_with fail
        refine bodyPost_ret (v := .agg #[.bool gr, .slice A9 nr nr, .int .i64 er]) (by simp [results, Tryz.results22, go_sem, z0, z1, z2]) rfl ?_
        have hZ7 := (HB27.out.block (X + 2) (by omega)).trans HZZ.out
        refine ⟨_, rfl, ?_, ?_⟩
        · rw [HRR.out]
          refine ⟨A9, by rw [HLR.out], ?_⟩
          simp only [HLR.out]
          refine Reads.more (Reads.beside HR7.out hZ7 fun k hk => ?_) (by simp [World.setCell])
          rw [Below.heap_setCell _ _ _ _ hk, Below.heap_setCell _ _ _ _ hk, Below.heap_setCell _ _ _ _ hk]
        · rw [HX.out]
          have hbE := (hb2.trans (HB27.out.mono (by omega)))
          exact ((hbE.setCell (p := ⟨X + 2, 0, none⟩) (by show X ≤ X + 2; omega) _).setCell (p := ⟨X + 2, 1, none⟩) (by show X ≤ X + 2; omega) _).setCell (p := ⟨X + 2, 2, none⟩) (by show X ≤ X + 2; omega) _
end Go.Proofs.YtmgafnflkfbckaaGreatDoor
