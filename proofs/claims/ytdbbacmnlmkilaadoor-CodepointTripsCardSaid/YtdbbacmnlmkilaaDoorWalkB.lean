/- The contract of codepoint.Decode, and that of the comparison of two lists of scalars. -/
import Derived.Test.YtdbbacmnlmkilaaDoorWalkA
import Derived.Test.YtdbbacmnlmkilaaDoorMem
import Derived.Deep.QuietTactic
import Derived.BigQuiet
namespace Go.Proofs.YtdbbacmnlmkilaaDoor
open Go.RowKit Go.Lib
namespace Cp
/-- The cells of a list of scalars. -/
def runes (l : List Nat) : List Value := l.map fun (r : Nat) => Value.int .i32 (r : Int)
theorem runes_snoc (l : List Nat) (r : Nat) : runes (l ++ [r]) = runes l ++ [.int .i32 (r : Int)] := by simp [runes]
theorem runes_length (l : List Nat) : (runes l).length = l.length := by simp [runes]
end Cp
theorem info21 : (Tryd.prog.info? 21).map (fun i => (i.zero, i.size, i.bytes)) = some (some (.int .i32 0), 1, 4) := by kernel_rfl
theorem runeCount_le' (s : ByteArray) : Lib.runeCount s ≤ s.size := Lib.runeCount_le s

set_option maxHeartbeats 1000000 in
set_option maxRecDepth 100000 in
theorem decode_bad (s : ByteArray) (w : World) (hT : Utf8Tabs 0 1 w) (hok : Cp.ok s.data.toList = false) :
    Calls Tryd.prog 13 #[.string s] w fun e w' => e = .returned (.tuple #[.slice none 0 0, .int .i64 11]) ∧ Below w.heap.size w w' := by
  go_enter Tryd.func13, Tryd.ntmps13
  have c : Calls Tryd.prog 12 #[.string s] w fun e w' => e = .returned (.tuple #[.int .i64 (Cp.used s.data.toList), .int .i64 11]) ∧ Below w.heap.size w w' :=
    (check_any s w hT).mono fun e w' ⟨h, hb⟩ => by
      rcases h with ⟨h1, _⟩ | ⟨_, h2⟩
      · rw [hok] at h1; cases h1
      · exact ⟨h2, hb⟩
  have C := Lib.hid c
  clear c hok
  go_wp2_with (go_at_call 12; refine (C.out).mono ?_; rintro e w' ⟨rfl, hb⟩)
  go_ret2
  exact ⟨rfl, hb⟩

set_option maxHeartbeats 1000000 in
set_option maxRecDepth 100000 in
theorem decode_ok (s : ByteArray) (w : World) (hT : Utf8Tabs 0 1 w) (hs : s.size ≤ 1073741824) (hok : Cp.ok s.data.toList = true) :
    Calls Tryd.prog 13 #[.string s] w fun e w' => ∃ v, e = .returned (.tuple #[v, .int .i64 0]) ∧ Hands w' v (Cp.runes (Cp.sc s.data.toList)) ∧ Below w.heap.size w w' := by
  have c : Calls Tryd.prog 12 #[.string s] w fun e w' => e = .returned (.tuple #[.int .i64 (-1), .int .i64 0]) ∧ Below w.heap.size w w' :=
    (check_any s w hT).mono fun e w' ⟨h, hb⟩ => by
      rcases h with ⟨_, h2⟩ | ⟨h1, _⟩
      · exact ⟨h2, hb⟩
      · rw [hok] at h1; cases h1
  have C := Lib.hid c
  have HO := Lib.hid hok
  obtain ⟨i0, hi, hz0, hz1, hz2⟩ := info_parts info21
  clear c hok
  have hrc := Lib.runeCount_le s
  go_enter Tryd.func13, Tryd.ntmps13
  go_wp2_with (first
    | (go_at_call 12; refine (C.out).mono ?_; rintro e w1 ⟨rfl, hb⟩)
    | (go_at_call 24; refine (Tryd.utf8_RuneCountInString s _ (by omega)).mono ?_; rintro e w' ⟨rfl, pos0, rfl⟩)
    | (at_make; refine wpList_make_own _ rfl _ _ 23 rfl w.heap.size 21 i0 (.int .i32 0) 1 Tryd.underlying23 hi hz0 hz1 _ _ _ (Lib.runeCount s) rfl rfl rfl (by rw [hz2]; omega) (by unfold maxLen; omega) (by have := hb.size; simp [World.iter]; omega) ?_; intro w2 hown hgr))
  have hb2 : Below w.heap.size w w2 := (hb.alloc hb.size _).grown hgr (by have := hb.size; simp; omega) (by intro k hk; cases hk)
  clear hgr
  have hsz := Cp.len_data s
  have hB2 := hb2.size
  go_loopg [6] s.size (fun g v wx => ∃ (pos : Nat) (xs : List Nat), wx.heap[w2.heap.size]? = some (.stringIter s pos) ∧ Below w.heap.size w wx ∧ wx.ownsRow w.heap.size 21 1 v xs.length (Cp.runes xs) ∧
    Cp.sc s.data.toList = xs ++ Cp.sc (s.data.toList.drop pos) ∧ Cp.used s.data.toList = pos + Cp.used (s.data.toList.drop pos) ∧ xs.length ≤ pos ∧ pos ≤ s.size ∧ s.size ≤ pos + g)
  case atStart => exact ⟨0, [], World.iter_heap w2 s 0, hb2.alloc hb2.size _, hown.alloc _, by simp, by simp, by simp, by omega, by omega⟩
  case round =>
    obtain ⟨pos, xs, hit, hbw, hown, hsc, hu, hxp, hps, hfu⟩ := hrel
    have hsw : w2.heap.size < wr.heap.size := (Array.getElem?_eq_some_iff.1 hit).1
    by_cases hp : pos < s.size
    · have hnx : ∀ ty, (Instr.next (.pointer (some ⟨w2.heap.size, 0, none⟩)) true ty).run Tryd.prog wr = _ := fun ty => Lib.run_next_any_at wr w2.heap.size s pos ty hit hp
      have hwd := Lib.width_pos s pos
      have hr1 := Lib.rune_le s pos
      have hdl := Lib.decodeL_drop s pos
      have hne : s.data.toList.drop pos ≠ [] := by
        intro h; have := congrArg List.length h; simp at this; omega
      have hle := Lib.decodeL_le _ hne
      rw [List.length_drop, hsz, hdl] at hle
      have hok := (Cp.ok_iff _).1 HO.out
      have hgood : Cp.bad (s.data.toList.drop pos) = false := by
        cases hbd : Cp.bad (s.data.toList.drop pos) with
        | false => rfl
        | true => rw [Cp.used_bad hbd] at hu; omega
      have hsc2 := Cp.sc_ok hne hgood
      have hu2 := Cp.used_ok hne hgood
      rw [hdl, List.drop_drop] at hsc2 hu2
      obtain ⟨R, hR⟩ : ∃ R, (Utf8.decode s pos).1 = R := ⟨_, rfl⟩
      obtain ⟨K, hK⟩ : ∃ K, (Utf8.decode s pos).2 = K := ⟨_, rfl⟩
      rw [hR, hK] at hnx hsc2
      rw [hK] at hwd hle hu2
      have hit2 := Lib.iterAt_heap wr w2.heap.size s pos (pos + K) hit
      have hbw2 := Lib.below_iterAt hbw (k := w2.heap.size) hB2 s (pos + K)
      have hown2 := own_iterAt hown hit (pos + K)
      obtain ⟨W, hWd⟩ : ∃ W, wr.iterAt w2.heap.size s (pos + K) = W := ⟨_, rfl⟩
      rw [hWd] at hnx hit2 hbw2 hown2
      have hWs : w2.heap.size < W.heap.size := (Array.getElem?_eq_some_iff.1 hit2).1
      have HF := Lib.hid (And.intro hsc (And.intro hu (And.intro hsc2 hu2)))
      clear hdl hR hK hWd hit hu hsz hne hok hgood hsc hsc2 hu2 hr1 hown
      obtain ⟨g, rfl⟩ : ∃ g, gk = g + 1 := ⟨gk - 1, by omega⟩
      go_wp2_with (at_builtin; refine wpList_append_own _ rfl _ _ 23 rfl w.heap.size 21 i0 (.int .i32 0) 1 4 Tryd.underlying23 hi hz0 hz1 hz2 rfl (by decide) _ _ _ rfl (hown2.alloc _) ⟨W.heap.size, 0, none⟩ 1 1 [.int .i32 (R : Int)] rfl rfl ?c1 ?c2 ?c3 ?c4 ?c5 ?_)
      case c1 =>
        intro j u hj
        match j, hj with
        | 0, hj => simp at hj; subst hj; simp [Addr.add]
      case c2 => intro u hu; simp at hu; subst hu; rfl
      case c3 => unfold maxLen; omega
      case c4 => omega
      case c5 => have := hbw2.size; simp; omega
      intro v' w3 hown3 hgr3 _
      have hit3 : w3.heap[w2.heap.size]? = some (.stringIter s (pos + K)) := by
        rw [hgr3.block _ (by simp; omega) (own_not_iter hown2 hit2), Below.heap_alloc _ _ _ hWs]; exact hit2
      have hb3 : Below w.heap.size w w3 := (hbw2.alloc hbw2.size _).grown hgr3 (by have := hbw2.size; simp; omega) (fun k hk => (hown2.lt k hk).1)
      clear hgr3 hown2 hbw2 hit2
      go_wp2
      go_roundg g
      case measure => omega
      case rel =>
        obtain ⟨h1, h2, h3, h4⟩ := HF.out
        refine ⟨pos + K, xs ++ [R], hit3, hb3, ?_, ?_, ?_, ?_, by omega, by omega⟩
        · rw [List.length_append, Cp.runes_snoc]; exact hown3
        · rw [h1, h3, List.append_assoc]; rfl
        · omega
        · simp; omega
    · have hnx : ∀ ty, (Instr.next (.pointer (some ⟨w2.heap.size, 0, none⟩)) true ty).run Tryd.prog wr = _ := fun ty => Lib.run_next_end_at wr w2.heap.size s pos ty hit hp
      have HF := Lib.hid hsc
      clear hsc hu
      go_wp2
      go_ret2
      have hsc := HF.out
      rw [List.drop_of_length_le (by omega), Cp.sc_nil, List.append_nil] at hsc
      rw [hsc]
      exact ⟨_, rfl, Hands.of_own hown, hbw⟩
end Go.Proofs.YtdbbacmnlmkilaaDoor
