/- CodepointJoins: the law's walk. -/
import Derived.Test.YtdbbacmnlmkilaaDoorLaw3
namespace Go.Proofs.YtdbbacmnlmkilaaDoor
open Go.RowKit Go.Lib

theorem add_strings (s t : ByteArray) (h : s.size + t.size ≤ 1073741824) (W : World) : (binOp .add 9 (.string s) (.string t)).run Tryd.prog W = .ok (.string (s ++ t)) W := by
  have h1 := run_string_add_sum (P := Tryd.prog) (w := W) s t (by omega)
  simpa [binOp, run_underlying Tryd.underlying9] using h1
theorem data_append (s t : ByteArray) : (s ++ t).data.toList = s.data.toList ++ t.data.toList := by simp

set_option maxHeartbeats 2000000 in
set_option maxRecDepth 100000 in
theorem law5 (s t : ByteArray) (w : World) (hT : Utf8Tabs 0 1 w) : Calls Tryd.prog 5 #[.string s, .string t] w fun e w' => e = .returned (.bool true) ∧ Below w.heap.size w w' := by
  have h2 := Cp.tabs_lt hT
  have AW := Lib.hid (awake_any w hT)
  by_cases hs : 1000 < s.size
  · go_enter Tryd.func5, Tryd.ntmps5
    go_wp2_with (go_at_call 10; refine (AW.out).mono ?_; rintro e w1 ⟨rfl, hb1⟩)
    go_ret
    exact ⟨rfl, hb1⟩
  · by_cases ht : 1000 < t.size
    · go_enter Tryd.func5, Tryd.ntmps5
      go_wp2_with (go_at_call 10; refine (AW.out).mono ?_; rintro e w1 ⟨rfl, hb1⟩)
      go_ret
      exact ⟨rfl, hb1⟩
    · have hadd := add_strings s t (by omega)
      have hst := data_append s t
      have hls := Cp.len_data s
      cases hok : Cp.ok s.data.toList with
      | false =>
        obtain ⟨u, hu⟩ : ∃ u, Cp.used s.data.toList = u := ⟨_, rfl⟩
        have hlt := (Cp.ok_false _).1 hok
        have C1 := fun W hW => check_bad s W hW hok
        rw [hu] at C1
        rw [hls, hu] at hlt
        have hC1 := Lib.hid C1
        clear hu hok C1 hst hls
        go_enter Tryd.func5, Tryd.ntmps5
        go_wp2_with fail
        refine (AW.out).mono ?_
        rintro e w1 ⟨rfl, hb1⟩
        go_wp2_with fail
        refine (hC1.out w1 (Cp.tabs_below hT hb1 h2)).mono ?_
        rintro e w2 ⟨rfl, hb2⟩
        have hb2w := hb1.trans (hb2.mono hb1.size)
        go_wp2_with fail
        refine (check_any t w2 (Cp.tabs_below hT hb2w h2)).mono ?_
        rintro e w3 ⟨hcase3, hb3⟩
        have hb3w := hb2w.trans (hb3.mono hb2w.size)
        rcases hcase3 with ⟨_, rfl⟩ | ⟨_, rfl⟩
        all_goals
          go_wp2_with fail
          refine (check_any (s ++ t) w3 (Cp.tabs_below hT hb3w h2)).mono ?_
          rintro e w4 ⟨hcase4, hb4⟩
          have hb4w := hb3w.trans (hb4.mono hb3w.size)
          rcases hcase4 with ⟨_, rfl⟩ | ⟨_, rfl⟩
        all_goals
          go_wp2_with fail
          go_ret
          exact ⟨rfl, hb4w⟩
      | true =>
        have hu := Cp.used_behind hok t.data.toList
        rw [hls] at hu
        have C1 := fun W hW => check_ok s W hW hok
        have hC1 := Lib.hid C1
        cases hokt : Cp.ok t.data.toList with
        | false =>
          have hbst : Cp.ok (s ++ t).data.toList = false := by
            have h1 := (Cp.ok_false _).1 hokt
            rw [Cp.ok_false, hst, hu, List.length_append, hls]; omega
          obtain ⟨u, hut⟩ : ∃ u, Cp.used t.data.toList = u := ⟨_, rfl⟩
          have C2 := fun W hW => check_bad t W hW hokt
          have C3 := fun W hW => check_bad (s ++ t) W hW hbst
          rw [hut] at C2 hu
          rw [hst, hu] at C3
          have hul : u ≤ t.size := by rw [← hut, ← Cp.len_data]; exact Cp.used_le _
          have hC2 := Lib.hid C2
          have hC3 := Lib.hid C3
          clear hu hok C1 hst hls hokt hbst hut C2 C3
          go_enter Tryd.func5, Tryd.ntmps5
          go_wp2_with fail
          refine (AW.out).mono ?_
          rintro e w1 ⟨rfl, hb1⟩
          go_wp2_with fail
          refine (hC1.out w1 (Cp.tabs_below hT hb1 h2)).mono ?_
          rintro e w2 ⟨rfl, hb2⟩
          have hb2w := hb1.trans (hb2.mono hb1.size)
          go_wp2_with fail
          refine (hC2.out w2 (Cp.tabs_below hT hb2w h2)).mono ?_
          rintro e w3 ⟨rfl, hb3⟩
          have hb3w := hb2w.trans (hb3.mono hb2w.size)
          go_wp2_with fail
          refine (hC3.out w3 (Cp.tabs_below hT hb3w h2)).mono ?_
          rintro e w4 ⟨rfl, hb4⟩
          have hb4w := hb3w.trans (hb4.mono hb3w.size)
          have heq : (((s.size + u : Nat) : Int) == (s.size : Int) + (u : Int)) = true := by simp
          go_wp2_with fail
          go_ret
          exact ⟨rfl, hb4w⟩
        | true =>
          have hbst : Cp.ok (s ++ t).data.toList = true := by
            have h1 := (Cp.ok_iff _).1 hokt
            rw [Cp.ok_iff, hst, hu, List.length_append, hls, h1]
          have C2 := fun W hW => check_ok t W hW hokt
          have C3 := fun W hW => check_ok (s ++ t) W hW hbst
          have hC2 := Lib.hid C2
          have hC3 := Lib.hid C3
          clear hu hok C1 hst hls hokt hbst C2 C3
          go_enter Tryd.func5, Tryd.ntmps5
          go_wp2_with fail
          refine (AW.out).mono ?_
          rintro e w1 ⟨rfl, hb1⟩
          go_wp2_with fail
          refine (hC1.out w1 (Cp.tabs_below hT hb1 h2)).mono ?_
          rintro e w2 ⟨rfl, hb2⟩
          have hb2w := hb1.trans (hb2.mono hb1.size)
          go_wp2_with fail
          refine (hC2.out w2 (Cp.tabs_below hT hb2w h2)).mono ?_
          rintro e w3 ⟨rfl, hb3⟩
          have hb3w := hb2w.trans (hb3.mono hb2w.size)
          go_wp2_with fail
          refine (hC3.out w3 (Cp.tabs_below hT hb3w h2)).mono ?_
          rintro e w4 ⟨rfl, hb4⟩
          have hb4w := hb3w.trans (hb4.mono hb3w.size)
          go_wp2_with fail
          go_ret
          exact ⟨rfl, hb4w⟩
end Go.Proofs.YtdbbacmnlmkilaaDoor
