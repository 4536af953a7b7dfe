/- The contract of Of. -/
import Derived.Test.YtcjhipcjhgicoaaDoorWalkA
namespace Go.Proofs.YtcjhipcjhgicoaaDoor
open Go.RowKit Go.Lib

theorem info3 : (Tryd.prog.info? 3).map (fun i => (i.zero, i.size, i.bytes)) = some (some (.int .i64 0), 1, 8) := by kernel_rfl
theorem info_parts {P : Program} {t : TypeId} {z : Value} {sz by_ : Nat} (h : (P.info? t).map (fun i => (i.zero, i.size, i.bytes)) = some (some z, sz, by_)) : ∃ i, P.info? t = some i ∧ i.zero = some z ∧ i.size = sz ∧ i.bytes = by_ := by
  cases hi : P.info? t with
  | none => rw [hi] at h; cases h
  | some i => rw [hi] at h; simp at h; exact ⟨i, rfl, h.1, h.2.1, h.2.2⟩
/-- What Of returns. -/
def LinesAt (w : World) (v : Value) (s : ByteArray) : Prop := ∃ A n c, v = .agg #[.string s, .slice A n c] ∧ Reads w w.heap.size A n (i64s (Po.bg s.data.toList)) ∧ n ≤ s.size

set_option maxHeartbeats 2000000 in
set_option maxRecDepth 100000 in
theorem of_any (s : ByteArray) (w : World) (hs : s.size ≤ 1073741824) : Calls Tryd.prog 11 #[.string s] w fun e w' => ∃ v, e = .returned v ∧ LinesAt w' v s ∧ Below w.heap.size w w' := by
  obtain ⟨i0, hi, hz0, hz1, hz2⟩ := info_parts info3
  go_enter Tryd.func11, Tryd.ntmps11
  go_wp2
  go_loopg [9] s.size (fun g i wx => ∃ (k : Nat) (v : Value), i = .int .i64 k ∧ k ≤ s.size ∧ s.size ≤ k + g ∧ Below w.heap.size w wx ∧ w.heap.size + 2 ≤ wx.heap.size ∧
    wx.ownsRow (w.heap.size + 2) 3 1 v (Po.bgN s.data.toList k).length (i64s (Po.bgN s.data.toList k)) ∧
    wx.heap[w.heap.size]? = some (.cells #[.string ⟨#[]⟩, .slice none 0 0] 25 (0, 0)) ∧ wx.heap[w.heap.size + 1]? = some (.cells #[.string s, v] 25 (0, 0)))
  case atStart =>
    refine ⟨0, .slice none 0 0, rfl, by omega, by omega, ?_, by simp, World.ownsRow_nil _ _ _ _, ?_, ?_⟩
    · exact ((Below.refl _ _).alloc (Nat.le_refl _) _).alloc (by simp) _
    · exact (Below.heap_alloc _ _ _ (by simp)).trans (heap_alloc_new w _)
    · have := heap_alloc_new (w.alloc (.cells #[.string ⟨#[]⟩, .slice none 0 0] 25)) (.cells #[.string s, .slice none 0 0] 25)
      simpa using this
  case round =>
    obtain ⟨k, v, rfl, hk, hg, hbw, hsz, hown, hX, hY⟩ := hrel
    by_cases hlt : k < s.size
    · have hi0 : (0 : Int) ≤ k := by omega
      have hin : (k : Int) < s.size := by omega
      obtain ⟨g, rfl⟩ : ∃ g, gk = g + 1 := ⟨gk - 1, by omega⟩
      have y0 := at_block hY 0 (.string s) rfl
      have y1 := at_block hY 1 v rfl
      have f0 := free_block hY 0
      have f1 := free_block hY 1
      have HX := Lib.hid hX
      have HY := Lib.hid hY
      obtain ⟨d, hd⟩ : ∃ d : UInt8, s[k]'hlt = d := ⟨_, rfl⟩
      have hd' : s.data.toList[k]? = some d := by
        rw [← hd]
        simp [hlt]
        rfl
      clear hX hY
      by_cases hten : d = 10
      · have h10 : ((d.toNat : Int) == 10) = true := by subst hten; rfl
        have hbg : Po.bgN s.data.toList (k + 1) = Po.bgN s.data.toList k ++ [k + 1] := Po.bgN_hit (by rw [hd', hten])
        have HBG := Lib.hid hbg
        have hlen := Po.bgN_len s.data.toList k
        clear hten hd' hbg
        go_wp2_with (at_builtin; refine wpList_append_own _ rfl _ _ 23 rfl (w.heap.size + 2) 3 i0 (.int .i64 0) 1 8 Tryd.underlying23 hi hz0 hz1 hz2 rfl (by decide) _ _ _ rfl (hown.alloc _) ⟨wr.heap.size, 0, none⟩ 1 1 [.int .i64 ((k : Int) + 1)] rfl rfl ?c1 ?c2 ?c3 ?c4 ?c5 ?_)
        case c1 =>
          intro j u hj
          match j, hj with
          | 0, hj => simp at hj; subst hj; simp [Addr.add]
        case c2 => intro u hu; simp at hu; subst hu; rfl
        case c3 => unfold maxLen; omega
        case c4 => omega
        case c5 => simp; omega
        intro v' w3 hown3 hgr3 _
        obtain ⟨A', c', rfl⟩ := own_form hown3
        have hb3' : Below (w.heap.size + 2) wr w3 := ((Below.refl _ _).alloc hsz _).grown hgr3 (by simp; omega) (fun k hk => (hown.lt k hk).1)
        have hb3 : Below w.heap.size w w3 := hbw.trans (hb3'.mono (by omega))
        have hX3 := (hb3'.block w.heap.size (by omega)).trans HX.out
        have hY3 := (hb3'.block (w.heap.size + 1) (by omega)).trans HY.out
        clear y0 y1 f0 f1
        have y0 := at_block hY3 0 (.string s) rfl
        have y1 := at_block hY3 1 v rfl
        have f0 := free_block hY3 0
        have f1 := free_block hY3 1
        have HX3 := Lib.hid hX3
        have HY3 := Lib.hid hY3
        have hsz3 : w.heap.size + 2 ≤ w3.heap.size := Nat.le_trans hsz hb3'.size
        clear hgr3 hX3 hY3
        go_wp2
        go_roundg g
        case measure => omega
        case rel =>
          refine ⟨k + 1, .slice A' ((Po.bgN s.data.toList k).length + 1) c', by go_num, by omega, by omega, hb3.setCell (p := ⟨w.heap.size + 1, 1, none⟩) (by show w.heap.size ≤ w.heap.size + 1; omega) _, ?_, ?_, ?_, ?_⟩
          · show _ ≤ (World.setCell _ _ _).heap.size
            simp [World.setCell]; exact hsz3
          · refine ownsRow_setCell_below ?_ (a := ⟨w.heap.size + 1, 1, none⟩) (by show w.heap.size + 1 < _; omega) _
            rw [HBG.out]
            simpa [i64s] using hown3
          · rw [Below.heap_setCell _ _ _ _ (by show w.heap.size ≠ w.heap.size + 1; omega)]
            exact HX3.out
          · exact block_set HY3.out 1 _
      · have h10 : ((d.toNat : Int) == 10) = false := by
          simp only [beq_eq_false_iff_ne, ne_eq]
          intro h
          exact hten (UInt8.toNat_inj.1 (by show d.toNat = 10; omega))
        have hbg : Po.bgN s.data.toList (k + 1) = Po.bgN s.data.toList k := Po.bgN_miss (by rw [hd']; simpa using hten)
        have HBG := Lib.hid hbg
        clear hten hd' hbg
        go_wp2
        go_roundg g
        case measure => omega
        case rel => exact ⟨k + 1, v, by go_num, by omega, by omega, hbw, hsz, by rw [HBG.out]; exact hown, HX.out, HY.out⟩
    · obtain rfl : k = s.size := by omega
      have hin : ¬ (s.size : Int) < s.size := by omega
      have y0 := at_block hY 0 (.string s) rfl
      have y1 := at_block hY 1 v rfl
      have x0 := at_block hX 0 (.string ⟨#[]⟩) rfl
      have x1 := at_block hX 1 (.slice none 0 0) rfl
      have f0 := free_block hX 0
      have f1 := free_block hX 1
      have HX := Lib.hid hX
      clear hX hY
      obtain ⟨A, c, hv⟩ := own_form hown
      subst hv
      have HO := Lib.hid hown
      clear hown
      go_wp2
      refine bodyPost_ret (v := .agg #[.string s, .slice A (Po.bgN s.data.toList s.size).length c]) (by simp [results, Tryd.results11, go_sem, x0, x1]) rfl ?_
      have ho := ownsRow_setCell_below (ownsRow_setCell_below HO.out (a := ⟨w.heap.size, 0, none⟩) (by show w.heap.size < _; omega) (.string s)) (a := ⟨w.heap.size, 1, none⟩) (by show w.heap.size < _; omega) (.slice A (Po.bgN s.data.toList s.size).length c)
      have hr := Reads.of_own ho
      refine ⟨_, rfl, ⟨A, _, c, rfl, ?_, Po.bgN_len _ _⟩, (hbw.setCell (p := ⟨w.heap.size, 0, none⟩) (Nat.le_refl _) _).setCell (p := ⟨w.heap.size, 1, none⟩) (Nat.le_refl _) _⟩
      have e : Po.bg s.data.toList = Po.bgN s.data.toList s.size := by rw [Po.bg]; congr 1
      rw [e]
      exact hr
end Go.Proofs.YtcjhipcjhgicoaaDoor
