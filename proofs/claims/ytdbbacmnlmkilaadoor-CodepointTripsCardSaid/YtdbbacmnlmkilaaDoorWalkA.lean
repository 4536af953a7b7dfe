/- The contracts of Check and Decode: what they return for every string. -/
import Derived.Test.YtdbbacmnlmkilaaDoorShelf
import Derived.Test.YtdbbacmnlmkilaaDoorPlain
import Derived.WalkKit
import Derived.WalkLawsBesides
import Derived.Lib.OthersKept
import Derived.Lib.Hide
import Derived.Deep.LoopGhost
import Derived.Deep.DeepFit
import Derived.Laws.DeepStrings4
import Derived.WalkSpells
namespace Go.Proofs.YtdbbacmnlmkilaaDoor
open Go.RowKit Go.Lib
namespace Cp

theorem tabs_lt {w : World} (h : Utf8Tabs 0 1 w) : 2 ≤ w.heap.size := by
  have h1 := (h.2 0 (by omega)).1
  rcases Nat.lt_or_ge 1 w.heap.size with h2 | h2
  · omega
  · exfalso
    simp [World.cell?, Array.getElem?_eq_none h2] at h1
theorem tabs_below {B : Nat} {w w' : World} (h : Utf8Tabs 0 1 w) (hb : Below B w w') (hB : 2 ≤ B) : Utf8Tabs 0 1 w' :=
  ⟨fun c hc => (hb.cell (p := ⟨0, c, none⟩) (by show 0 < B; omega)).trans (h.1 c hc),
   fun i hi => ⟨(hb.cell (p := ⟨1, 2 * i, none⟩) (by show 1 < B; omega)).trans (h.2 i hi).1, (hb.cell (p := ⟨1, 2 * i + 1, none⟩) (by show 1 < B; omega)).trans (h.2 i hi).2⟩⟩
theorem decodeGo_extract (s : ByteArray) (pos : Nat) (h : pos < s.size) : decodeGo (s.extract pos s.size) = Utf8.decode s pos := by
  have hx : (s.extract pos s.size).data.toList = s.data.toList.drop pos := by
    rw [extract_data, List.take_of_length_le (by rw [List.length_drop, ← size_eq]; omega)]
  have hsz : (s.extract pos s.size).size ≠ 0 := by rw [size_eq, hx, List.length_drop, ← size_eq]; omega
  unfold decodeGo
  rw [if_neg hsz, ← decodeL_drop s pos, ← hx]
  rfl
theorem len_data (s : ByteArray) : s.data.toList.length = s.size := by rw [size_eq]
end Cp

set_option maxHeartbeats 1000000 in
set_option maxRecDepth 100000 in
/-- Check: the place of the first byte at which no sequence begins, or -1. -/
theorem check_any (s : ByteArray) (w : World) (hT : Utf8Tabs 0 1 w) :
    Calls Tryd.prog 12 #[.string s] w fun e w' => ((Cp.ok s.data.toList = true ∧ e = .returned (.tuple #[.int .i64 (-1), .int .i64 0])) ∨
      (Cp.ok s.data.toList = false ∧ e = .returned (.tuple #[.int .i64 (Cp.used s.data.toList), .int .i64 11]))) ∧ Below w.heap.size w w' := by
  have h2 := Cp.tabs_lt hT
  have hsz := Cp.len_data s
  go_enter Tryd.func12, Tryd.ntmps12
  go_wp2
  go_loopg [] s.size (fun g wx => ∃ pos : Nat, wx.heap[w.heap.size]? = some (.stringIter s pos) ∧ Below w.heap.size w wx ∧ Cp.used s.data.toList = pos + Cp.used (s.data.toList.drop pos) ∧ pos ≤ s.size ∧ s.size ≤ pos + g)
  case atStart => exact ⟨0, World.iter_heap w s 0, (Below.refl _ w).alloc (Nat.le_refl _) _, by simp, by omega, by omega⟩
  case round =>
    obtain ⟨pos, hit, hbw, hu, hps, hfu⟩ := hrel
    have hsw : w.heap.size < wr.heap.size := (Array.getElem?_eq_some_iff.1 hit).1
    by_cases hp : pos < s.size
    · have hnx : ∀ ty, (Instr.next (.pointer (some ⟨w.heap.size, 0, none⟩)) true ty).run Tryd.prog wr = _ := fun ty => Lib.run_next_any_at wr w.heap.size s pos ty hit hp
      have hwd := Lib.width_pos s pos
      have hr1 := Lib.rune_le s pos
      have hdl := Lib.decodeL_drop s pos
      have hne : s.data.toList.drop pos ≠ [] := by
        intro h; have := congrArg List.length h; simp at this; omega
      have hle := Lib.decodeL_le _ hne
      rw [List.length_drop, hsz] at hle
      rw [hdl] at hle
      obtain ⟨R, hR⟩ : ∃ R, (Utf8.decode s pos).1 = R := ⟨_, rfl⟩
      obtain ⟨K, hK⟩ : ∃ K, (Utf8.decode s pos).2 = K := ⟨_, rfl⟩
      rw [hR, hK] at hnx
      rw [hR] at hr1
      rw [hK] at hwd hle
      have hdl' : decodeL (s.data.toList.drop pos) = (R, K) := by rw [hdl, ← hR, ← hK]
      have hit2 := Lib.iterAt_heap wr w.heap.size s pos (pos + K) hit
      have hbw2 := Lib.below_iterAt hbw (k := w.heap.size) (Nat.le_refl _) s (pos + K)
      obtain ⟨W, hWd⟩ : ∃ W, wr.iterAt w.heap.size s (pos + K) = W := ⟨_, rfl⟩
      rw [hWd] at hnx hit2 hbw2
      have hWs : w.heap.size < W.heap.size := (Array.getElem?_eq_some_iff.1 hit2).1
      have cD := Tryd.utf8_DecodeRuneInString (s.extract pos s.size) W (Cp.tabs_below hT hbw2 h2)
      rw [Cp.decodeGo_extract s pos hp, hR, hK] at cD
      have CD := Lib.hid cD
      have HD := Lib.hid hdl'
      have HU := Lib.hid hu
      have HS := Lib.hid hsz
      have HN := Lib.hid hne
      clear hdl hdl' hR hK hWd hit hu hsz cD hne
      obtain ⟨g, rfl⟩ : ∃ g, gk = g + 1 := ⟨gk - 1, by omega⟩
      have next : ¬ (R = 65533 ∧ K = 1) → Cp.used s.data.toList = (pos + K) + Cp.used (s.data.toList.drop (pos + K)) := by
        intro hb
        have h1 := Cp.used_ok HN.out ((Cp.bad_false _).2 (by rw [HD.out]; exact hb))
        rw [HD.out, List.drop_drop] at h1
        rw [HU.out, h1]; simp only; omega
      have NX := Lib.hid next
      clear next
      by_cases hr : R = 65533
      · have hrb : ((R : Int) == 65533) = true := by simp; omega
        by_cases hk : K = 1
        · have hkb : ((K : Int) == 1) = true := by simp; omega
          have HR := Lib.hid hr
          have HK := Lib.hid hk
          clear hr hk
          go_wp2_with (go_at_call 23; refine (CD.out).mono ?_; rintro e w' ⟨rfl, hb⟩)
          go_ret2
          have hbad : Cp.bad (s.data.toList.drop pos) = true := (Cp.bad_iff _).2 (by rw [HD.out]; exact ⟨HR.out, HK.out⟩)
          have hu := HU.out
          rw [Cp.used_bad hbad] at hu
          have hs' := HS.out
          refine ⟨.inr ⟨(Cp.ok_false _).2 (by omega), ?_⟩, hbw2.trans (hb.mono (by omega))⟩
          rw [hu]; rfl
        · have hkb : ((K : Int) == 1) = false := by simp; omega
          have HK := Lib.hid hk
          have HR := Lib.hid hr
          clear hk hr
          go_wp2_with (go_at_call 23; refine (CD.out).mono ?_; rintro e w' ⟨rfl, hb⟩)
          go_roundg g
          case measure => omega
          case rel => exact ⟨pos + K, (hb.block w.heap.size hWs).trans hit2, hbw2.trans (hb.mono (by omega)), NX.out (fun hh => HK.out hh.2), by omega, by omega⟩
      · have hrb : ((R : Int) == 65533) = false := by simp; omega
        have HR := Lib.hid hr
        clear hr
        go_wp2_with fail
        go_roundg g
        case measure => omega
        case rel => exact ⟨pos + K, hit2, hbw2, NX.out (fun hh => HR.out hh.1), by omega, by omega⟩
    · have hnx : ∀ ty, (Instr.next (.pointer (some ⟨w.heap.size, 0, none⟩)) true ty).run Tryd.prog wr = _ := fun ty => Lib.run_next_end_at wr w.heap.size s pos ty hit hp
      go_wp2
      go_ret2
      have hpe : pos = s.size := by omega
      subst hpe
      rw [List.drop_of_length_le (by omega), Cp.used_nil] at hu
      exact ⟨.inl ⟨by rw [Cp.ok_iff]; omega, rfl⟩, hbw⟩
end Go.Proofs.YtdbbacmnlmkilaaDoor
