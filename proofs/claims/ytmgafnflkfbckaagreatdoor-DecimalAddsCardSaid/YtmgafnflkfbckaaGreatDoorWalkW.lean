/- The reference: Norm. -/
import Derived.Test.YtmgafnflkfbckaaGreatDoorWalkV
import Derived.Test.YtmgafnflkfbckaaGreatDoorWalkA
import Derived.Deep.RegionHeld3
namespace Go.Proofs.YtmgafnflkfbckaaGreatDoor
open Go.RowKit Go.Lib

/-- A number of the reference, as a value that reads as x. -/
def RNum (w : World) (v : Value) (x : Dc.D) : Prop := ∃ A c, v = .agg #[.bool x.neg, .slice A x.c.length c, .int .i64 x.e] ∧ Reads w w.heap.size A x.c.length (i64s x.c)
theorem RNum.on {w w' : World} {v : Value} {x : Dc.D} (h : RNum w v x) (hb : Below w.heap.size w w') : RNum w' v x := by
  obtain ⟨A, c, e, hr⟩ := h
  exact ⟨A, c, e, hr.on hb⟩
/-- The same, its digits in a row of the call's own. -/
def RNumO (base : Nat) (w : World) (v : Value) (x : Dc.D) : Prop := ∃ A c, v = .agg #[.bool x.neg, .slice A x.c.length c, .int .i64 x.e] ∧ w.ownsRow base 3 1 (.slice A x.c.length c) x.c.length (i64s x.c)
theorem RNumO.num {base : Nat} {w : World} {v : Value} {x : Dc.D} (h : RNumO base w v x) : RNum w v x := by
  obtain ⟨A, c, e, ho⟩ := h
  exact ⟨A, c, e, Reads.of_own ho⟩
theorem own_base {w : World} {base base' : Nat} {e : TypeId} {v : Value} {n : Nat} {xs : List Value} (h : w.ownsRow base e 1 v n xs) (hb : base' ≤ base) : w.ownsRow base' e 1 v n xs := by
  obtain ⟨h1, h2⟩ := h
  refine ⟨h1, ?_⟩
  rcases h2 with h2 | ⟨g, cap, cur, rfl, b, c, d⟩
  · exact .inl h2
  · exact .inr ⟨g, cap, cur, rfl, Nat.le_trans hb b, c, d⟩
theorem own_far {w : World} {base : Nat} {e : TypeId} {v : Value} {n : Nat} {xs : List Value} (h : w.ownsRow base e 1 v n xs) {k : Nat} (hk : k < base) : v.ownBlock ≠ some k := fun he => by have := (h.lt k he).1; omega

set_option maxHeartbeats 1000000 in
set_option maxRecDepth 100000 in
theorem refnorm_any (neg : Bool) (A : Option Addr) (n c : Nat) (l : List Nat) (e : Int) (w : World) (hr : Reads w w.heap.size A n (i64s l)) (hn : n ≤ 1073741824) (he : -4611686018427387904 ≤ e ∧ e ≤ 4611686018427387904) :
    Calls Tryz.prog 27 #[.bool neg, .slice A n c, .int .i64 e] w fun x w' => ∃ v, x = .returned v ∧ RNumO w.heap.size w' v (Dc.norm neg l e) ∧ Below w.heap.size w w' := by
  have hln : l.length = n := by have := hr.1; rwa [i64s_len] at this
  have HE := Lib.hid he
  have HLL := Lib.hid hln
  obtain ⟨i0, hi, hz0, hz1, hz2⟩ := info_parts info3
  go_enter Tryz.func27, Tryz.ntmps27
  go_upto_block 0 with fail
  obtain ⟨w1, hw1⟩ : ∃ w1 : World, w.alloc (.cells #[.bool false, .slice none 0 0, .int .i64 0] 25) = w1 := ⟨_, rfl⟩
  have hb1 : Below w.heap.size w w1 := by rw [← hw1]; exact (Below.refl _ _).alloc (Nat.le_refl _) _
  have hX1 : w1.heap[w.heap.size]? = some (.cells #[.bool false, .slice none 0 0, .int .i64 0] 25 (0, 0)) := by rw [← hw1]; exact heap_alloc_new w _
  have hs1 : w1.heap.size = w.heap.size + 1 := by rw [← hw1]; simp
  have hr1 : Reads w1 w1.heap.size A n (i64s l) := hr.on hb1
  obtain ⟨X, hX⟩ : ∃ X, w.heap.size = X := ⟨_, rfl⟩
  have hrX : Reads w X A n (i64s l) := hX ▸ hr
  rw [hw1, hX]
  rw [hX] at hb1 hX1 hs1
  clear hw1
  go_cut [7] (fun s7 wx => ∃ k : Nat, s7 = .int .i64 (k : Int) ∧ k ≤ n ∧ wx = w1 ∧ Dc.lead l = l.drop k)
  case first =>
    go_wp2_with fail
    go_loopg [7] n (fun f i wx => ∃ k : Nat, i = .int .i64 (k : Int) ∧ k ≤ n ∧ n ≤ k + f ∧ wx = w1 ∧ Dc.lead l = Dc.lead (l.drop k))
    case atStart => exact ⟨0, rfl, by omega, by omega, rfl, rfl⟩
    case round =>
      obtain ⟨k, rfl, hk, hf, rfl, hlk⟩ := hrel
      have HLK := Lib.hid hlk
      clear hlk
      have hk0 : (0 : Int) ≤ (k : Int) := by omega
      by_cases hlt : k < n
      · have hin : (k : Int) < (n : Int) := by omega
        obtain ⟨b, off, u, rfl, hbB, hu, hcell⟩ := hr1.at_ (k := k) hlt
        obtain ⟨x, hx, rfl⟩ := i64_at hu
        have HX := Lib.hid hx
        clear hx hu
        by_cases hx0 : x = 0
        · have h0 : ((x : Int) == 0) = true := by subst hx0; rfl
          obtain ⟨f, rfl⟩ : ∃ f, gk = f + 1 := ⟨gk - 1, by omega⟩
          have HX0 := Lib.hid hx0
          clear hx0
          go_wp2_with fail
          go_roundg f
          case measure => omega
          case rel =>
            refine ⟨k + 1, by go_num, by omega, by omega, rfl, ?_⟩
            rw [HLK.out]
            have e := HX.out
            rw [HX0.out] at e
            obtain ⟨hlt', e2⟩ := List.getElem?_eq_some_iff.1 e
            rw [List.drop_eq_getElem_cons hlt', e2, Dc.lead, if_pos rfl]
        · have h0 : ((x : Int) == 0) = false := by simp; omega
          have HX0 := Lib.hid hx0
          clear hx0
          go_wp2_with fail
          go_meet
          refine ⟨k, rfl, hk, rfl, ?_⟩
          rw [HLK.out]
          refine Dc.lead_stop (x := x) ?_ HX0.out
          rw [List.head?_eq_getElem?, List.getElem?_drop, Nat.add_zero]; exact HX.out
      · obtain rfl : k = n := by omega
        have hin : ¬ (k : Int) < (k : Int) := by omega
        go_wp2_with fail
        go_meet
        refine ⟨k, rfl, hk, rfl, ?_⟩
        rw [HLK.out, List.drop_eq_nil_of_le (by rw [HLL.out]; exact Nat.le_refl _)]; rfl
  case rest =>
    obtain ⟨k, rfl, hk, rfl, hlead⟩ := hcut
    obtain ⟨L, hL⟩ : ∃ L, l.drop k = L := ⟨_, rfl⟩
    have hLl : k + L.length = n := by rw [← hL, List.length_drop]; omega
    rw [hL] at hlead
    have HLead := Lib.hid hlead
    have HL := Lib.hid hL
    have HLm := Lib.hid hLl
    clear hlead hL hln
    have hk0 : (0 : Int) ≤ (k : Int) := by omega
    go_upto_block 2 with fail
    go_cut [8, 2] (fun s8 s2 wx => ∃ m : Nat, s8 = .int .i64 (m : Int) ∧ k ≤ m ∧ m ≤ n ∧ s2 = .int .i64 (e + ((n - m : Nat) : Int)) ∧ wx = wc ∧ Dc.trail L = n - m)
    case first =>
      go_wp2_with fail
      go_loopg [8, 2] n (fun f i ie wx => ∃ m : Nat, i = .int .i64 (m : Int) ∧ k ≤ m ∧ m ≤ n ∧ m ≤ f ∧ ie = .int .i64 (e + ((n - m : Nat) : Int)) ∧ wx = wc ∧ ∀ j u, m ≤ k + j → L[j]? = some u → u = 0)
      case atStart => exact ⟨n, rfl, hk, Nat.le_refl _, Nat.le_refl _, by simp, rfl, fun j u hj hu => by rw [List.getElem?_eq_none (by omega)] at hu; cases hu⟩
      case round =>
        obtain ⟨m, rfl, hkm, hm, hf, rfl, rfl, hz⟩ := hrel
        have HZ := Lib.hid hz
        clear hz
        obtain ⟨E, hE⟩ : ∃ E, e + ((n - m : Nat) : Int) = E := ⟨_, rfl⟩
        rw [hE]
        by_cases hmk : m = k
        · subst hmk
          have hin : ¬ (m : Int) < (m : Int) := by omega
          have HEE := Lib.hid hE
          clear hE
          go_wp2_with fail
          go_meet
          refine ⟨m, rfl, hkm, hm, by rw [HEE.out], rfl, ?_⟩
          have := HLm.out
          exact Dc.trail_is (by omega) (fun j u hj hu => HZ.out j u (by omega) hu) (Or.inl (by omega))
        · obtain ⟨q, rfl⟩ : ∃ q, m = q + 1 := ⟨m - 1, by omega⟩
          have hqm : ((q + 1 : Nat) : Int) = (q : Int) + 1 := by omega
          rw [hqm]
          have hin : (k : Int) < (q : Int) + 1 := by omega
          have hqn : (q : Int) < (n : Int) := by omega
          have hq0 : (0 : Int) ≤ (q : Int) := by omega
          obtain ⟨b, off, u, rfl, hbB, hu, hcell⟩ := hr1.at_ (k := q) (by omega)
          obtain ⟨x, hx, rfl⟩ := i64_at hu
          have hxL : L[q - k]? = some x := by rw [← HL.out, List.getElem?_drop, show k + (q - k) = q by omega]; exact hx
          have hE1 : E + 1 = e + ((n - q : Nat) : Int) := by omega
          have hEb : -9223372036854775808 ≤ E + 1 ∧ E + 1 ≤ 9223372036854775807 := by have := HE.out; omega
          have HEE := Lib.hid hE
          have HE1 := Lib.hid hE1
          have HXL := Lib.hid hxL
          clear hE hE1 hx hu hxL hqm hmk
          by_cases hx0 : x = 0
          · have h0 : ((x : Int) == 0) = true := by subst hx0; rfl
            obtain ⟨f, rfl⟩ : ∃ f, gk = f + 1 := ⟨gk - 1, by omega⟩
            have HX0 := Lib.hid hx0
            clear hx0
            go_wp2_with fail
            go_roundg f
            case measure => omega
            case rel =>
              refine ⟨q, by go_num, by omega, by omega, by omega, by rw [← HE1.out], rfl, fun j u hj hu => ?_⟩
              by_cases hjq : j = q - k
              · subst hjq
                have := HXL.out
                rw [hu] at this
                rw [Option.some.inj this]; exact HX0.out
              · exact HZ.out j u (by omega) hu
          · have h0 : ((x : Int) == 0) = false := by simp; omega
            have HX0 := Lib.hid hx0
            clear hx0
            go_wp2_with fail
            go_meet
            have := HLm.out
            refine ⟨q + 1, by go_num, hkm, hm, by rw [HEE.out], rfl, ?_⟩
            refine Dc.trail_is (by omega) (fun j u hj hu => HZ.out j u (by omega) hu) (Or.inr ⟨x, ?_, HX0.out⟩)
            rw [show L.length - (n - (q + 1)) - 1 = q - k by omega]; exact HXL.out
    case rest =>
      obtain ⟨m, rfl, hkm, hm, rfl, rfl, ht⟩ := hcut
      obtain ⟨E, hE⟩ : ∃ E, e + ((n - m : Nat) : Int) = E := ⟨_, rfl⟩
      rw [hE]
      have hEb : -9223372036854775808 ≤ E ∧ E ≤ 9223372036854775807 := by have := HE.out; omega
      have HT := Lib.hid ht
      have HEE := Lib.hid hE
      have x0 := at_block hX1 0 _ rfl
      have x1 := at_block hX1 1 _ rfl
      have x2 := at_block hX1 2 _ rfl
      have f0 := free_block hX1 0
      have f1 := free_block hX1 1
      have f2 := free_block hX1 2
      have HX1 := Lib.hid hX1
      have HXX := Lib.hid hX
      have HS1 := Lib.hid hs1
      clear ht hE hX1 hX
      by_cases hmk : k = m
      · subst hmk
        have hLn : L = [] := by
          have h1 := HT.out
          have h3 := HLm.out
          cases hL : L with
          | nil => rfl
          | cons y L' =>
            exfalso
            have h2 := Dc.lead_nonzero (l := l) (by rw [HLead.out, hL]; simp)
            rw [HLead.out] at h2
            apply h2
            apply List.length_eq_zero_iff.1
            rw [Dc.core_len]; omega
        have HLn := Lib.hid hLn
        clear hLn hs1
        go_wp2_with fail
        refine bodyPost_ret (v := .agg #[.bool false, .slice none 0 0, .int .i64 0]) (by simp [results, Tryz.results27, go_sem, x0, x1, x2]) rfl ?_
        have hnorm : Dc.norm neg l e = ⟨false, [], 0⟩ := by rw [Dc.norm, HLead.out, HLn.out, if_pos rfl]
        refine ⟨_, rfl, ⟨none, 0, by rw [hnorm]; rfl, by rw [hnorm]; exact World.ownsRow_nil _ _ _ _⟩, ?_⟩
        rw [HXX.out]
        exact ((hb1.setCell (p := ⟨X, 0, none⟩) (Nat.le_refl _) _).setCell (p := ⟨X, 1, none⟩) (Nat.le_refl _) _).setCell (p := ⟨X, 2, none⟩) (Nat.le_refl _) _
      · have hnef : ((k : Int) == (m : Int)) = false := by simp; omega
        have hLne : L ≠ [] := by
          have h3 := HLm.out
          intro h; rw [h] at h3; simp at h3; omega
        obtain ⟨C, hC⟩ : ∃ C, L.take (m - k) = C := ⟨_, rfl⟩
        have hCl : C.length = m - k := by have := HLm.out; rw [← hC, List.length_take]; omega
        have hnorm : Dc.norm neg l e = ⟨neg, C, E⟩ := by
          have h3 := HLm.out
          rw [Dc.norm, HLead.out, if_neg hLne, HT.out, HEE.out, Dc.core, HT.out, show L.length - (n - m) = m - k by omega, hC]
        have hCat : ∀ j, k + j < m → C[j]? = l[k + j]? := by
          intro j hj
          rw [← hC, List.getElem?_take, if_pos (by omega), ← HL.out, List.getElem?_drop]
        have HN := Lib.hid hnorm
        have HCl := Lib.hid hCl
        have HCat := Lib.hid hCat
        clear hnorm hC hCl hCat hLne hmk
        go_upto_block 4 with fail
        have hb2 : Below X w (wc.alloc (.cells #[.bool neg, .slice none 0 0, .int .i64 E] 25)) := hb1.alloc (by omega) _
        have hY2 := heap_alloc_new wc (.cells #[.bool neg, .slice none 0 0, .int .i64 E] 25)
        rw [hs1] at hY2
        have hXb2 := (Below.heap_alloc wc (.cells #[.bool neg, .slice none 0 0, .int .i64 E] 25) X (by omega)).trans HX1.out
        have hsz2 : (wc.alloc (.cells #[.bool neg, .slice none 0 0, .int .i64 E] 25)).heap.size = X + 2 := by simp [hs1]
        obtain ⟨w2, hw2⟩ : ∃ w2, wc.alloc (.cells #[.bool neg, .slice none 0 0, .int .i64 E] 25) = w2 := ⟨_, rfl⟩
        rw [hw2] at hb2 hY2 hXb2 hsz2
        rw [hw2]
        have HS2 := Lib.hid hsz2
        have HCell := Lib.hid (And.intro hY2 hXb2)
        clear hw2 x0 x1 x2 f0 f1 f2 hY2 hXb2 hsz2 hs1 HT HEE HE HX1 HS1 hr1 hr
        go_wp2_with fail
        go_loopg [10] m (fun f i wx => ∃ (q j : Nat) (v : Value), i = .int .i64 (q : Int) ∧ k + j = q ∧ q ≤ m ∧ m ≤ q + f ∧ Below X w wx ∧ X + 2 ≤ wx.heap.size ∧ wx.ownsRow (X + 2) 3 1 v j (i64s (C.take j)) ∧
          wx.heap[X]? = some (.cells #[.bool false, .slice none 0 0, .int .i64 0] 25 (0, 0)) ∧ wx.heap[X + 1]? = some (.cells #[.bool neg, v, .int .i64 E] 25 (0, 0)))
        case atStart => exact ⟨k, 0, .slice none 0 0, rfl, rfl, hkm, by omega, hb2, by rw [HS2.out]; exact Nat.le_refl _, World.ownsRow_nil _ _ _ _, HCell.out.2, HCell.out.1⟩
        case round =>
          obtain ⟨q, j, v, rfl, hqj, hqm, hf, hbx, hsx, hown, hXx, hYx⟩ := hrel
          have HQJ := Lib.hid hqj
          have HXx := Lib.hid hXx
          have y0 := at_block hYx 0 _ rfl
          have y1 := at_block hYx 1 _ rfl
          have y2 := at_block hYx 2 _ rfl
          have HYx := Lib.hid hYx
          have hq0 : (0 : Int) ≤ (q : Int) := by omega
          have hjq : j ≤ q := by omega
          clear hqj hXx hYx
          by_cases hlt : q < m
          · have hin : (q : Int) < (m : Int) := by omega
            have hqn : (q : Int) < (n : Int) := by omega
            obtain ⟨f, rfl⟩ : ∃ f, gk = f + 1 := ⟨gk - 1, by omega⟩
            obtain ⟨b, off, u, rfl, hbB, hu, hcell⟩ := (hrX.below hbx).at_ (k := q) (by omega)
            obtain ⟨x, hx, rfl⟩ := i64_at hu
            have hCx : C[j]? = some x := by rw [HCat.out j (by rw [HQJ.out]; exact hlt), HQJ.out]; exact hx
            have HCx := Lib.hid hCx
            clear hCx hx hu
            go_wp2_with fail
            have ya : ∀ o, (wr.alloc o).cell? ⟨X + 1, 1, none⟩ = some v := fun o => (World.cell?_alloc_lt wr o ⟨X + 1, 1, none⟩ (by show X + 1 < _; omega)).trans y1
            go_region_law
              ((refine step_append_any _ (by rfl) _ _ _ (by rfl) (X + 2) 3 i0 _ 8 Tryz.underlying23 hi hz0 hz1 hz2 rfl v j (i64s (C.take j)) (by rfl) ((hown.alloc _).drew)
                  _ (some ⟨wr.heap.size, 0, none⟩) 1 1 [.int .i64 (x : Int)] (by rfl) (Reads.of_block (cs := [.int .i64 (x : Int)]) (t := 3) (fr := (0, 0)) (heap_alloc_new wr _)) (by simp [Value.oneCell'])
                  (by unfold maxLen; omega) (by omega) (by simp; omega) ?_; intro v' w3 hown3 hgr3; obtain ⟨A', c', rfl⟩ := own_form hown3; have hb3' : Below (X + 2) wr w3 := (((Below.refl _ _).alloc hsx _).drew).grown hgr3 (by simp; omega) (fun k hk => (hown.lt k hk).1); have hY3 := (hb3'.block (X + 1) (by omega)).trans HYx.out; have z1 := at_block hY3 1 _ rfl; have g1 := free_block hY3 1; have c3 := (hb3'.cell (p := ⟨b, off + q, none⟩) (by show b < X + 2; omega)).trans hcell; have HY3 := Lib.hid hY3; clear hY3))
            all_goals
              go_wp2_with fail
              go_roundg f
              case measure => omega
              case rel =>
                have hqq := HQJ.out
                refine ⟨q + 1, j + 1, .slice A' (j + 1) c', by go_num, by omega, by omega, by omega, ?_, ?_, ?_, ?_, ?_⟩
                · exact (hbx.trans (hb3'.mono (by omega))).setCell (p := ⟨X + 1, 1, none⟩) (by show X ≤ X + 1; omega) _
                · show _ ≤ (World.setCell _ _ _).heap.size
                  simp [World.setCell]; exact Nat.le_trans hsx hb3'.size
                · refine ownsRow_setCell_below ?_ (a := ⟨X + 1, 1, none⟩) (by show X + 1 < _; omega) _
                  rw [List.take_add_one, HCx.out, i64s_append]
                  exact hown3
                · rw [Below.heap_setCell _ _ _ _ (by show X ≠ X + 1; omega)]
                  exact (hb3'.block X (by omega)).trans HXx.out
                · exact block_set HY3.out 1 _
          · obtain rfl : q = m := by omega
            have hin : ¬ (q : Int) < (q : Int) := by omega
            obtain ⟨A', c', rfl⟩ := own_form hown
            have hj : j = C.length := by have := HCl.out; have := HQJ.out; omega
            have hx := HXx.out
            have x0 := at_block hx 0 _ rfl
            have x1 := at_block hx 1 _ rfl
            have x2 := at_block hx 2 _ rfl
            have f0 := free_block hx 0
            have f1 := free_block hx 1
            have f2 := free_block hx 2
            have HJ := Lib.hid hj
            have HO := Lib.hid hown
            clear hx hj hown
            go_wp2_with fail
            refine bodyPost_ret (v := .agg #[.bool neg, .slice A' j c', .int .i64 E]) (by simp [results, Tryz.results27, go_sem, x0, x1, x2]) rfl ?_
            have ho := ownsRow_setCell_below (ownsRow_setCell_below (ownsRow_setCell_below HO.out (a := ⟨X, 0, none⟩) (by show X < _; omega) (.bool neg)) (a := ⟨X, 1, none⟩) (by show X < _; omega) (.slice A' j c')) (a := ⟨X, 2, none⟩) (by show X < _; omega) (.int .i64 E)
            have hrd := own_base (base' := w.heap.size) ho (by rw [HXX.out]; omega)
            rw [HJ.out, List.take_length] at hrd
            refine ⟨_, rfl, ⟨A', c', by rw [HN.out, HJ.out], by rw [HN.out, HJ.out]; exact hrd⟩, ?_⟩
            rw [HXX.out]
            exact ((hbx.setCell (p := ⟨X, 0, none⟩) (Nat.le_refl _) _).setCell (p := ⟨X, 1, none⟩) (Nat.le_refl _) _).setCell (p := ⟨X, 2, none⟩) (Nat.le_refl _) _
end Go.Proofs.YtmgafnflkfbckaaGreatDoor
