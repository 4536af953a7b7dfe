/- CodepointDecodes: the law's walk. -/
import Derived.Test.YtdbbacmnlmkilaaDoorWalkK
namespace Go.Proofs.YtdbbacmnlmkilaaDoor
open Go.RowKit Go.Lib

theorem refdec_ok' (s : ByteArray) (w : World) (hs : s.size ≤ 1073741824) (h : Cp.ok s.data.toList = true) (l : List Nat) (n : Nat) (hl : Cp.sc s.data.toList = l) (hn : l.length = n) :
    Calls Tryd.prog 11 #[.string s] w fun e w' => ∃ A c, e = .returned (.tuple #[.slice A n c, .int .i64 (-1)]) ∧ Reads w' w'.heap.size A n (i32s (l.map fun (r : Nat) => (r : Int))) ∧ Below w.heap.size w w' :=
  (refdec_ok s w hs h).mono fun e w' ⟨v, h1, h2, h3⟩ => by
    rw [hl] at h2
    obtain ⟨A, c, rfl, hr⟩ := hands_open h2
    rw [hn] at h1 hr
    exact ⟨A, c, h1, hr, h3⟩
theorem decode_ok' (s : ByteArray) (w : World) (hT : Utf8Tabs 0 1 w) (hs : s.size ≤ 1073741824) (h : Cp.ok s.data.toList = true) (l : List Nat) (n : Nat) (hl : Cp.sc s.data.toList = l) (hn : l.length = n) :
    Calls Tryd.prog 13 #[.string s] w fun e w' => ∃ A c, e = .returned (.tuple #[.slice A n c, .int .i64 0]) ∧ Reads w' w'.heap.size A n (i32s (l.map fun (r : Nat) => (r : Int))) ∧ Below w.heap.size w w' :=
  (decode_ok s w hT hs h).mono fun e w' ⟨v, h1, h2, h3⟩ => by
    rw [hl] at h2
    obtain ⟨A, c, rfl, hr⟩ := hands_open h2
    rw [hn] at h1 hr
    exact ⟨A, c, h1, hr, h3⟩
theorem same' (l : List Nat) (n : Nat) (hn : l.length = n) (A A' : Option Addr) (c c' : Nat) (w : World) (hA : Reads w w.heap.size A n (i32s (l.map fun (r : Nat) => (r : Int)))) (hA' : Reads w w.heap.size A' n (i32s (l.map fun (r : Nat) => (r : Int)))) (h9 : n ≤ 1073741824) :
    Calls Tryd.prog 14 #[.slice A n c, .slice A' n c'] w fun e w' => e = .returned (.bool true) ∧ Below w.heap.size w w' := by
  have hm : (l.map fun (r : Nat) => (r : Int)).length = n := by rw [List.length_map, hn]
  have := is_same (l.map fun (r : Nat) => (r : Int)) A A' c c' w (by rw [hm]; exact hA) (by rw [hm]; exact hA') (by rw [hm]; exact h9)
  rw [hm] at this
  exact this.mono fun e w' ⟨h1, k, h2⟩ => ⟨h1, by rw [h2]; exact ⟨rfl, rfl, rfl, Nat.le_refl _, fun _ _ => rfl⟩⟩

set_option maxHeartbeats 2000000 in
set_option maxRecDepth 100000 in
theorem law3 (s : ByteArray) (w : World) (hT : Utf8Tabs 0 1 w) : Calls Tryd.prog 3 #[.string s] w fun e w' => e = .returned (.bool true) ∧ Below w.heap.size w w' := by
  have h2 := Cp.tabs_lt hT
  have AW := Lib.hid (awake_any w hT)
  by_cases hs : 2000 < s.size
  · go_enter Tryd.func3, Tryd.ntmps3
    go_wp2_with (go_at_call 10; refine (AW.out).mono ?_; rintro e w1 ⟨rfl, hb1⟩)
    go_ret
    exact ⟨rfl, hb1⟩
  · have hs9 : s.size ≤ 1073741824 := by omega
    cases hok : Cp.ok s.data.toList with
    | true =>
      obtain ⟨l, hl⟩ : ∃ l, Cp.sc s.data.toList = l := ⟨_, rfl⟩
      obtain ⟨n, hn⟩ : ∃ n, l.length = n := ⟨_, rfl⟩
      have hn9 : n ≤ 1073741824 := by have := Cp.sc_le s.data.toList; have := Cp.used_le s.data.toList; rw [Cp.len_data] at this; rw [hl] at *; omega
      have HL := Lib.hid hl
      have HN := Lib.hid hn
      have HO := Lib.hid hok
      clear hl hn hok
      go_enter Tryd.func3, Tryd.ntmps3
      go_wp2_with fail
      refine (AW.out).mono ?_
      rintro e w1 ⟨rfl, hb1⟩
      go_wp2_with fail
      refine (refdec_ok' s w1 hs9 HO.out l n HL.out HN.out).mono ?_
      rintro e w2 ⟨A2, c2, rfl, hr2, hb2⟩
      have hb2w := hb1.trans (hb2.mono hb1.size)
      go_wp2_with fail
      refine (check_ok s w2 (Cp.tabs_below hT hb2w h2) HO.out).mono ?_
      rintro e w3 ⟨rfl, hb3⟩
      have hb3w := hb2w.trans (hb3.mono hb2w.size)
      have hr3 := hr2.on hb3
      go_wp2_with fail
      refine (decode_ok' s w3 (Cp.tabs_below hT hb3w h2) hs9 HO.out l n HL.out HN.out).mono ?_
      rintro e w4 ⟨A4, c4, rfl, hr4, hb4⟩
      have hb4w := hb3w.trans (hb4.mono hb3w.size)
      have hr4' := hr3.on hb4
      go_wp2_with fail
      refine (same' l n HN.out A4 A2 c4 c2 w4 hr4 hr4' hn9).mono ?_
      rintro e w5 ⟨rfl, hb5⟩
      have hb5w := hb4w.trans (hb5.mono hb4w.size)
      go_wp2_with fail
      go_ret
      exact ⟨rfl, hb5w⟩
    | false =>
      obtain ⟨u, hu⟩ : ∃ u, Cp.used s.data.toList = u := ⟨_, rfl⟩
      have C1 := fun W => refdec_bad s W hs9 hok
      have C2 := fun W hW => check_bad s W hW hok
      rw [hu] at C1 C2
      have HO := Lib.hid hok
      have hC1 := Lib.hid C1
      have hC2 := Lib.hid C2
      clear hu hok C1 C2
      go_enter Tryd.func3, Tryd.ntmps3
      go_wp2_with fail
      refine (AW.out).mono ?_
      rintro e w1 ⟨rfl, hb1⟩
      go_wp2_with fail
      refine (hC1.out w1).mono ?_
      rintro e w2 ⟨v2, rfl, _, hb2⟩
      have hb2w := hb1.trans (hb2.mono hb1.size)
      go_wp2_with fail
      refine (hC2.out w2 (Cp.tabs_below hT hb2w h2)).mono ?_
      rintro e w3 ⟨rfl, hb3⟩
      have hb3w := hb2w.trans (hb3.mono hb2w.size)
      go_wp2_with fail
      refine (decode_bad s w3 (Cp.tabs_below hT hb3w h2) HO.out).mono ?_
      rintro e w4 ⟨rfl, hb4⟩
      have hb4w := hb3w.trans (hb4.mono hb3w.size)
      go_wp2_with fail
      go_ret
      exact ⟨rfl, hb4w⟩
end Go.Proofs.YtdbbacmnlmkilaaDoor
