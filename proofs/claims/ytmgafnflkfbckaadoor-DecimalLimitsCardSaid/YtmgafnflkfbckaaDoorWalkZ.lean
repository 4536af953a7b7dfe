/- The reference: padded, align. -/
import Derived.Test.YtmgafnflkfbckaaDoorWalkY
namespace Go.Proofs.YtmgafnflkfbckaaDoor
open Go.RowKit Go.Lib

set_option maxHeartbeats 1000000 in
set_option maxRecDepth 100000 in
theorem padded_any (g : Bool) (A : Option Addr) (n c k : Nat) (l : List Nat) (xe e : Int) (w : World) (hr : Reads w w.heap.size A n (i64s l)) (hk : l = [] ∨ xe - e = (k : Int)) (hn : n ≤ 100000) (hkb : k ≤ 100000) (he : -10000000 ≤ e ∧ e ≤ 10000000) (hxe : -10000000 ≤ xe ∧ xe ≤ 10000000) :
    Calls Tryd.prog 78 #[.agg #[.bool g, .slice A n c, .int .i64 xe], .int .i64 e] w fun x w' => ∃ v, x = .returned v ∧ w'.ownsRow w.heap.size 3 1 v (Dc.padL ⟨g, l, xe⟩ e).length (i64s (Dc.padL ⟨g, l, xe⟩ e)) ∧ Below w.heap.size w w' := by
  obtain ⟨i0, hi, hz0, hz1, hz2⟩ := info_parts info3
  have hln : l.length = n := by have := hr.1; rwa [i64s_len] at this
  obtain ⟨w2, X, hw2, hX, hb2, hX2, hcells⟩ := box_ref g A n c xe w
  have hr2 := hr.on hb2
  obtain ⟨PL, hPL⟩ : ∃ PL, Dc.padL ⟨g, l, xe⟩ e = PL := ⟨_, rfl⟩
  rw [hPL]
  have HLN := Lib.hid hln
  have HC := Lib.hid hcells
  have HW2 := Lib.hid hw2
  have HXX := Lib.hid hX
  have HPL := Lib.hid hPL
  have HK := Lib.hid hk
  clear hcells hw2 hX hr hln hPL hk
  go_enter Tryd.func78, Tryd.ntmps78
  go_upto_block 0 with fail
  rw [HW2.out, HXX.out]
  go_cut [5] (fun v wx => wx.ownsRow w2.heap.size 3 1 v n (i64s l) ∧ Below w2.heap.size w2 wx)
  case first =>
    go_wp2_with fail
    go_loopg [5, 6] n (fun f v i wx => ∃ j : Nat, i = .int .i64 (j : Int) ∧ j ≤ n ∧ n ≤ j + f ∧ wx.ownsRow w2.heap.size 3 1 v j (i64s (l.take j)) ∧ Below w2.heap.size w2 wx)
    case atStart => exact ⟨0, rfl, by omega, by omega, World.ownsRow_nil _ _ _ _, Below.refl _ _⟩
    case round =>
      obtain ⟨j, rfl, hj, hf, hown, hbx⟩ := hrel
      obtain ⟨y0, y1, y2, _⟩ := HC.out _ hbx
      have hj0 : (0 : Int) ≤ (j : Int) := by omega
      by_cases hlt : j < n
      · have hin : (j : Int) < (n : Int) := by omega
        obtain ⟨f, rfl⟩ : ∃ f, gk = f + 1 := ⟨gk - 1, by omega⟩
        obtain ⟨b, off, u, rfl, hbB, hu, hcell⟩ := (hr2.below hbx).at_ (k := j) hlt
        obtain ⟨x, hx, rfl⟩ := i64_at hu
        have HXJ := Lib.hid hx
        clear hx hu
        go_wp2_with (at_builtin; refine wpList_append_own _ rfl _ _ 23 rfl w2.heap.size 3 i0 (.int .i64 0) 1 8 Tryd.underlying23 hi hz0 hz1 hz2 rfl (by decide) _ _ _ rfl (hown.alloc _) ⟨wr.heap.size, 0, none⟩ 1 1 [.int .i64 (x : Int)] rfl rfl ?c1 ?c2 ?c3 ?c4 ?c5 ?_)
        case c1 =>
          intro j u hj
          match j, hj with
          | 0, hj => simp at hj; subst hj; simp [Addr.add]
        case c2 => intro u hu; simp at hu; subst hu; rfl
        case c3 => unfold maxLen; omega
        case c4 => omega
        case c5 => have := hbx.size; simp; omega
        intro v' w3 hown3 hgr3 _
        have hb3 : Below w2.heap.size w2 w3 := (hbx.alloc hbx.size _).grown hgr3 (by have := hbx.size; simp; omega) (fun k hk => (hown.lt k hk).1)
        clear hgr3 y0 y1 y2
        go_wp2
        go_roundg f
        case measure => omega
        case rel =>
          refine ⟨j + 1, by go_num, by omega, by omega, ?_, hb3⟩
          rw [List.take_add_one, HXJ.out, i64s_append]; exact hown3
      · obtain rfl : j = n := by omega
        have hin : ¬ (j : Int) < (j : Int) := by omega
        go_wp2_with fail
        go_meet
        refine ⟨?_, hbx⟩
        have h1 := HLN.out
        rw [List.take_of_length_le (by omega)] at hown; exact hown
  case rest =>
    obtain ⟨hown, hbx⟩ := hcut
    obtain ⟨w3, hw3⟩ : ∃ W, W = wc := ⟨_, rfl⟩
    subst hw3
    have HO := Lib.hid hown
    clear hown
    go_wp2_with fail
    by_cases h0 : n = 0
    · have hl0 : l = [] := List.length_eq_zero_iff.1 (by rw [HLN.out]; exact h0)
      have hP0 : PL = [] := by rw [← HPL.out, Dc.padL, if_pos hl0]
      subst hP0
      subst h0
      have hown := HO.out
      rw [hl0] at hown
      clear hl0
      go_loopg [5, 7] 0 (fun f v i wx => i = .int .i64 e ∧ wx.ownsRow w2.heap.size 3 1 v 0 (i64s []) ∧ Below w2.heap.size w2 wx)
      case atStart => exact ⟨rfl, hown, hbx⟩
      case round =>
        obtain ⟨rfl, hown, hbx⟩ := hrel
        obtain ⟨y0, y1, y2, _⟩ := HC.out _ hbx
        by_cases hee : e < xe
        · go_wp2_with fail
          go_ret
          exact ⟨_, rfl, own_base hown hb2.size, hb2.trans (hbx.mono hb2.size)⟩
        · go_wp2_with fail
          go_ret
          exact ⟨_, rfl, own_base hown hb2.size, hb2.trans (hbx.mono hb2.size)⟩
    · have hne : l ≠ [] := by intro h; have := HLN.out; rw [h] at this; simp at this; omega
      have hk := HK.out.resolve_left hne
      have hP1 : PL = l ++ List.replicate k 0 := by rw [← HPL.out, Dc.padL, if_neg hne]; simp only [hk, Int.toNat_natCast]
      have hPl : PL.length = n + k := by rw [hP1, List.length_append, List.length_replicate, HLN.out]
      have hn0 : (0 : Int) < (n : Int) := by omega
      have HP1 := Lib.hid hP1
      have HPl := Lib.hid hPl
      have HKK := Lib.hid hk
      have HN0 := Lib.hid h0
      have hxe2 : xe = e + (k : Int) := by omega
      clear hne hk hP1 hPl h0
      go_loopg [5, 7] k (fun f v i wx => ∃ (j : Nat) (E : Int), i = .int .i64 E ∧ e + (j : Int) = E ∧ j ≤ k ∧ k ≤ j + f ∧ wx.ownsRow w2.heap.size 3 1 v (n + j) (i64s (l ++ List.replicate j 0)) ∧ Below w2.heap.size w2 wx)
      case atStart => exact ⟨0, e, rfl, by omega, by omega, by omega, by simpa using HO.out, hbx⟩
      case round =>
        obtain ⟨j, E, rfl, hE, hj, hf, hown, hbx⟩ := hrel
        obtain ⟨y0, y1, y2, _⟩ := HC.out _ hbx
        have HEE := Lib.hid hE
        by_cases hlt : j < k
        · have hin : E < xe := by omega
          have hEb : -10000000 ≤ E ∧ E ≤ 10100000 := by omega
          obtain ⟨f, rfl⟩ : ∃ f, gk = f + 1 := ⟨gk - 1, by omega⟩
          clear hE hxe2
          go_wp2_with (at_builtin; refine wpList_append_own _ rfl _ _ 23 rfl w2.heap.size 3 i0 (.int .i64 0) 1 8 Tryd.underlying23 hi hz0 hz1 hz2 rfl (by decide) _ _ _ rfl (hown.alloc _) ⟨wr.heap.size, 0, none⟩ 1 1 [.int .i64 0] rfl rfl ?c1 ?c2 ?c3 ?c4 ?c5 ?_)
          case c1 =>
            intro j u hj
            match j, hj with
            | 0, hj => simp at hj; subst hj; simp [Addr.add]
          case c2 => intro u hu; simp at hu; subst hu; rfl
          case c3 => unfold maxLen; omega
          case c4 => omega
          case c5 => have := hbx.size; simp; omega
          intro v' w4 hown4 hgr4 _
          have hb4 : Below w2.heap.size w2 w4 := (hbx.alloc hbx.size _).grown hgr4 (by have := hbx.size; simp; omega) (fun k hk => (hown.lt k hk).1)
          clear hgr4 y0 y1 y2
          go_wp2
          go_roundg f
          case measure => omega
          case rel =>
            refine ⟨j + 1, E + 1, by go_num, by have := HEE.out; omega, by omega, by omega, ?_, hb4⟩
            rw [← rep_snoc, ← List.append_assoc, i64s_append]; exact hown4
        · obtain rfl : j = k := by omega
          have hin : ¬ E < xe := by omega
          clear hE hxe2
          go_wp2_with fail
          go_ret
          refine ⟨_, rfl, ?_, hb2.trans (hbx.mono hb2.size)⟩
          rw [HPl.out, HP1.out]
          exact own_base hown hb2.size
end Go.Proofs.YtmgafnflkfbckaaDoor
