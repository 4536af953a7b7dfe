/- CodepointOrders: the law's walk. -/
import Derived.Test.YtdbbacmnlmkilaaDoorLaw3
import Derived.Test.YtdbbacmnlmkilaaDoorPlain3
namespace Go.Proofs.YtdbbacmnlmkilaaDoor
open Go.RowKit Go.Lib
namespace Cp
theorem lessS_same (a b : List Nat) : ∀ k, (∀ j, j < k → a[j]? = b[j]?) → k ≤ a.length → k ≤ b.length → lessS a b = lessS (a.drop k) (b.drop k)
  | 0, _, _, _ => by simp
  | k + 1, h, ha, hb => by
    rw [lessS_same a b k (fun j hj => h j (by omega)) (by omega) (by omega)]
    have e := h k (by omega)
    have ea : a.drop k = a[k] :: a.drop (k + 1) := List.drop_eq_getElem_cons (by omega)
    have eb : b.drop k = b[k] :: b.drop (k + 1) := List.drop_eq_getElem_cons (by omega)
    rw [List.getElem?_eq_getElem (by omega), List.getElem?_eq_getElem (by omega)] at e
    have e' : a[k] = b[k] := Option.some.inj e
    rw [ea, eb, lessS, if_pos e']
theorem lessS_at (a b : List Nat) (k x y : Nat) (h : ∀ j, j < k → a[j]? = b[j]?) (ha : a[k]? = some x) (hb : b[k]? = some y) (hne : x ≠ y) : lessS a b = decide (x < y) := by
  obtain ⟨la, ea⟩ := List.getElem?_eq_some_iff.1 ha
  obtain ⟨lb, eb⟩ := List.getElem?_eq_some_iff.1 hb
  rw [lessS_same a b k h (by omega) (by omega), List.drop_eq_getElem_cons la, List.drop_eq_getElem_cons lb, ea, eb, lessS, if_neg hne]
theorem lessS_end (a b : List Nat) (k : Nat) (h : ∀ j, j < k → a[j]? = b[j]?) (hk : k ≤ a.length) (hk' : k ≤ b.length) (he : k = a.length ∨ k = b.length) : lessS a b = decide (a.length < b.length) := by
  rw [lessS_same a b k h hk hk']
  rcases he with rfl | rfl
  · rw [List.drop_length]
    cases hb : b.drop a.length with
    | nil => have := congrArg List.length hb; rw [List.length_drop, List.length_nil] at this; simp [lessS]; omega
    | cons y t => have := congrArg List.length hb; rw [List.length_drop, List.length_cons] at this; simp [lessS]; omega
  · rw [List.drop_length]
    cases ha : a.drop b.length with
    | nil => simp [lessS]; omega
    | cons y t => simp [lessS]; omega
theorem below_drew {B : Nat} {a w : World} (h : Below B a w) (n : Nat) : Below B a (w.drewN n) := ⟨h.os, h.tape, h.output, h.size, h.block⟩
end Cp
theorem rune_at {l : List Nat} {k : Nat} {u : Value} (h : (i32s (l.map fun (r : Nat) => (r : Int)))[k]? = some u) : ∃ r : Nat, l[k]? = some r ∧ u = .int .i32 (r : Int) := by
  simp only [i32s, List.map_map, List.getElem?_map, Option.map_eq_some_iff] at h
  obtain ⟨r, h1, rfl⟩ := h
  exact ⟨r, h1, rfl⟩
theorem bytes_list (s : ByteArray) : s.toList = s.data.toList := Lib.toList_data s

set_option maxHeartbeats 4000000 in
set_option maxRecDepth 100000 in
theorem law4 (s t : ByteArray) (w : World) (hT : Utf8Tabs 0 1 w) : Calls Tryd.prog 4 #[.string s, .string t] w fun e w' => e = .returned (.bool true) ∧ Below w.heap.size w w' := by
  have h2 := Cp.tabs_lt hT
  have AW := Lib.hid (awake_any w hT)
  by_cases hs : 500 < s.size
  · go_enter Tryd.func4, Tryd.ntmps4
    go_wp2_with (go_at_call 10; refine (AW.out).mono ?_; rintro e w1 ⟨rfl, hb1⟩)
    go_ret
    exact ⟨rfl, hb1⟩
  · by_cases ht : 500 < t.size
    · go_enter Tryd.func4, Tryd.ntmps4
      go_wp2_with (go_at_call 10; refine (AW.out).mono ?_; rintro e w1 ⟨rfl, hb1⟩)
      go_ret
      exact ⟨rfl, hb1⟩
    · have hs9 : s.size ≤ 1073741824 := by omega
      have ht9 : t.size ≤ 1073741824 := by omega
      cases hoks : Cp.ok s.data.toList with
      | false =>
        have HO := Lib.hid hoks
        clear hoks
        cases hokt : Cp.ok t.data.toList with
        | false =>
          have HO2 := Lib.hid hokt
          clear hokt
          go_enter Tryd.func4, Tryd.ntmps4
          go_wp2_with fail
          refine (AW.out).mono ?_
          rintro e w1 ⟨rfl, hb1⟩
          go_wp2_with fail
          refine (decode_bad s w1 (Cp.tabs_below hT hb1 h2) HO.out).mono ?_
          rintro e w2 ⟨rfl, hb2⟩
          have hb2w := hb1.trans (hb2.mono hb1.size)
          go_wp2_with fail
          refine (decode_bad t w2 (Cp.tabs_below hT hb2w h2) HO2.out).mono ?_
          rintro e w3 ⟨rfl, hb3⟩
          have hb3w := hb2w.trans (hb3.mono hb2w.size)
          go_wp2_with fail
          go_ret
          exact ⟨rfl, hb3w⟩
        | true =>
          have HO2 := Lib.hid hokt
          clear hokt
          go_enter Tryd.func4, Tryd.ntmps4
          go_wp2_with fail
          refine (AW.out).mono ?_
          rintro e w1 ⟨rfl, hb1⟩
          go_wp2_with fail
          refine (decode_bad s w1 (Cp.tabs_below hT hb1 h2) HO.out).mono ?_
          rintro e w2 ⟨rfl, hb2⟩
          have hb2w := hb1.trans (hb2.mono hb1.size)
          go_wp2_with fail
          refine (decode_ok' t w2 (Cp.tabs_below hT hb2w h2) ht9 HO2.out _ _ rfl rfl).mono ?_
          rintro e w3 ⟨A3, c3, rfl, _, hb3⟩
          have hb3w := hb2w.trans (hb3.mono hb2w.size)
          go_wp2_with fail
          go_ret
          exact ⟨rfl, hb3w⟩
      | true =>
        cases hokt : Cp.ok t.data.toList with
        | false =>
          have HO := Lib.hid hoks
          have HO2 := Lib.hid hokt
          clear hokt hoks
          go_enter Tryd.func4, Tryd.ntmps4
          go_wp2_with fail
          refine (AW.out).mono ?_
          rintro e w1 ⟨rfl, hb1⟩
          go_wp2_with fail
          refine (decode_ok' s w1 (Cp.tabs_below hT hb1 h2) hs9 HO.out _ _ rfl rfl).mono ?_
          rintro e w2 ⟨A2, c2, rfl, _, hb2⟩
          have hb2w := hb1.trans (hb2.mono hb1.size)
          go_wp2_with fail
          refine (decode_bad t w2 (Cp.tabs_below hT hb2w h2) HO2.out).mono ?_
          rintro e w3 ⟨rfl, hb3⟩
          have hb3w := hb2w.trans (hb3.mono hb2w.size)
          go_wp2_with fail
          go_ret
          exact ⟨rfl, hb3w⟩
        | true =>
          have hless := Cp.less_ok hoks hokt
          obtain ⟨a, ha⟩ : ∃ a, Cp.sc s.data.toList = a := ⟨_, rfl⟩
          obtain ⟨b, hb⟩ : ∃ b, Cp.sc t.data.toList = b := ⟨_, rfl⟩
          obtain ⟨n, hn⟩ : ∃ n, a.length = n := ⟨_, rfl⟩
          obtain ⟨m, hm⟩ : ∃ m, b.length = m := ⟨_, rfl⟩
          have hn9 : n ≤ 1073741824 := by have h3 := Cp.sc_le s.data.toList; have h4 := Cp.used_le s.data.toList; rw [Cp.len_data] at h4; rw [ha] at h3; omega
          have hm9 : m ≤ 1073741824 := by have h3 := Cp.sc_le t.data.toList; have h4 := Cp.used_le t.data.toList; rw [Cp.len_data] at h4; rw [hb] at h3; omega
          rw [ha, hb, ← bytes_list, ← bytes_list] at hless
          have HO := Lib.hid hoks
          have HO2 := Lib.hid hokt
          have HA := Lib.hid ha
          have HB := Lib.hid hb
          have HN := Lib.hid hn
          have HM := Lib.hid hm
          have HLS := Lib.hid hless
          clear hoks hokt ha hb hn hm hless
          go_enter Tryd.func4, Tryd.ntmps4
          go_wp2_with fail
          refine (AW.out).mono ?_
          rintro e w1 ⟨rfl, hb1⟩
          go_wp2_with fail
          refine (decode_ok' s w1 (Cp.tabs_below hT hb1 h2) hs9 HO.out a n HA.out HN.out).mono ?_
          rintro e w2 ⟨A2, c2, rfl, hr2, hb2⟩
          have hb2w := hb1.trans (hb2.mono hb1.size)
          go_wp2_with fail
          refine (decode_ok' t w2 (Cp.tabs_below hT hb2w h2) ht9 HO2.out b m HB.out HM.out).mono ?_
          rintro e w3 ⟨A3, c3, rfl, hr3, hb3⟩
          have hb3w := hb2w.trans (hb3.mono hb2w.size)
          have hr2' := hr2.on hb3
          clear hb1 hb2 hb2w hb3 hr2
          go_wp2
          go_loopg [9] n (fun g i wx => ∃ (k q : Nat), i = .int .i64 k ∧ wx = w3.drewN q ∧ k ≤ n ∧ k ≤ m ∧ (∀ j, j < k → a[j]? = b[j]?) ∧ n ≤ k + g)
          case atStart => exact ⟨0, 0, rfl, rfl, by omega, by omega, fun j hj => by omega, by omega⟩
          case round =>
            obtain ⟨k, q, rfl, rfl, hk, hk', hpre, hg⟩ := hrel
            have HPRE := Lib.hid hpre
            clear hpre
            by_cases hlt : k < n ∧ k < m
            · obtain ⟨hl1, hl2⟩ := hlt
              obtain ⟨B1, o1, u1, rfl, hB1, hu1, hc1⟩ := hr2'.at_ hl1
              obtain ⟨B2, o2, u2, rfl, hB2, hu2, hc2⟩ := hr3.at_ hl2
              obtain ⟨x, hx, rfl⟩ := rune_at hu1
              obtain ⟨y, hy, rfl⟩ := rune_at hu2
              have HX := Lib.hid hx
              have HY := Lib.hid hy
              have hk0 : (0 : Int) ≤ k := by omega
              have hkn : (k : Int) < n := by omega
              have hkm : (k : Int) < m := by omega
              obtain ⟨g, rfl⟩ : ∃ g, gk = g + 1 := ⟨gk - 1, by omega⟩
              clear hu1 hu2 hx hy
              by_cases hxy : x = y
              · have hne : ((x : Int) != y) = false := by simp; omega
                have HXY := Lib.hid hxy
                clear hxy
                go_wp2
                go_quiet (fail)
                go_wp2
                go_roundg g
                case measure => omega
                case rel =>
                  refine ⟨k + 1, _, by go_num, rfl, by omega, by omega, fun j hj => ?_, by omega⟩
                  rcases Nat.lt_or_ge j k with h | h
                  · exact HPRE.out j h
                  · obtain rfl : j = k := by omega
                    rw [HX.out, HY.out, HXY.out]
              · have hne : ((x : Int) != y) = true := by simp; omega
                have hres := Cp.lessS_at a b k x y HPRE.out HX.out HY.out hxy
                have hls := HLS.out
                rw [hres] at hls
                have HXY := Lib.hid hxy
                clear hxy hres
                by_cases hlt2 : x < y
                · have e1 : decide ((x : Int) < y) = true := by simp; omega
                  have e2 : Op.bytesLess s.toList t.toList = true := by rw [hls]; simp; omega
                  clear hls
                  go_wp2
                  go_quiet (fail)
                  go_wp2
                  go_quiet (fail)
                  go_wp2
                  go_ret
                  exact ⟨rfl, Cp.below_drew (Cp.below_drew (Cp.below_drew hb3w _) _) _⟩
                · have e1 : decide ((x : Int) < y) = false := by simp; omega
                  have e2 : Op.bytesLess s.toList t.toList = false := by rw [hls]; simp; omega
                  clear hls
                  go_wp2
                  go_quiet (fail)
                  go_wp2
                  go_quiet (fail)
                  go_wp2
                  go_ret
                  exact ⟨rfl, Cp.below_drew (Cp.below_drew (Cp.below_drew hb3w _) _) _⟩
            · have hend := Cp.lessS_end a b k HPRE.out (by rw [HN.out]; omega) (by rw [HM.out]; omega) (by rw [HN.out, HM.out]; omega)
              rw [HN.out, HM.out] at hend
              have hls := HLS.out
              rw [hend] at hls
              clear hend
              by_cases h1 : k < n
              · have h3 : ¬ k < m := fun h => hlt ⟨h1, h⟩
                have h3' : ¬ (k : Int) < m := by omega
                have h1' : (k : Int) < n := by omega
                have e1 : decide ((n : Int) < m) = false := by simp; omega
                have e1' : decide (n < m) = false := by simp; omega
                have e2 : Op.bytesLess s.toList t.toList = false := by rw [hls]; simp; omega
                clear hls hlt
                go_wp2
                go_ret
                exact ⟨rfl, Cp.below_drew hb3w _⟩
              · have h1' : ¬ (k : Int) < n := by omega
                clear hlt
                by_cases h4 : n < m
                · have e1 : decide ((n : Int) < m) = true := by simp; omega
                  have e1' : decide (n < m) = true := by simp; omega
                  have e2 : Op.bytesLess s.toList t.toList = true := by rw [hls]; simp; omega
                  clear hls
                  go_wp2
                  go_ret
                  exact ⟨rfl, Cp.below_drew hb3w _⟩
                · have e1 : decide ((n : Int) < m) = false := by simp; omega
                  have e1' : decide (n < m) = false := by simp; omega
                  have e2 : Op.bytesLess s.toList t.toList = false := by rw [hls]; simp; omega
                  clear hls
                  go_wp2
                  go_ret
                  exact ⟨rfl, Cp.below_drew hb3w _⟩
end Go.Proofs.YtdbbacmnlmkilaaDoor
