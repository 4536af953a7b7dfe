/- CodepointTrips: the law's walk. -/
import Derived.Test.YtdbbacmnlmkilaaDoorLaw8
namespace Go.Proofs.YtdbbacmnlmkilaaDoor
open Go.RowKit Go.Lib

theorem Cp.ints_map (l : List Nat) : (l.map fun (r : Nat) => (r : Int)) = Cp.ints l := rfl
/-- What was decoded is encoded as itself. -/
theorem encode_back (s : ByteArray) (hok : Cp.ok s.data.toList = true) (hs : s.size ≤ 2000) (A : Option Addr) (m c : Nat) (hm : (Cp.sc s.data.toList).length = m) (w : World) (hr : Reads w w.heap.size A m (i32s ((Cp.sc s.data.toList).map fun (r : Nat) => (r : Int)))) :
    Calls Tryd.prog 19 #[.slice A m c] w fun e w' => e = .returned (.tuple #[.string s, .int .i64 0]) ∧ Below w.heap.size w w' := by
  have h3 := Cp.sc_le s.data.toList
  have h4 := Cp.used_le s.data.toList
  rw [Cp.len_data] at h4
  have hv := Cp.sc_valid s.data.toList
  refine (encode_any _ A m c w hr (fun z hz => ?_) (by omega)).mono ?_
  · have := (Cp.valid_iff z).1 (hv z hz)
    omega
  · rintro e w' ⟨h | ⟨⟨z, hz, hb⟩, _⟩, hb'⟩
    · refine ⟨?_, hb'⟩
      rw [h.2, Cp.ints_map, Cp.encs_sc, (Cp.ok_iff _).1 hok, List.take_length]
    · have := hv z hz
      rw [hb] at this
      cases this
/-- What was encoded is decoded as itself. -/
theorem decode_back (zs : List Int) (hv : ∀ z ∈ zs, Cp.valid z = true) (n : Nat) (hn : zs.length = n) (hn9 : n ≤ 500) (w : World) (hT : Utf8Tabs 0 1 w) :
    Calls Tryd.prog 13 #[.string ⟨(Cp.encs zs).toArray⟩] w fun e w' => ∃ A c, e = .returned (.tuple #[.slice A n c, .int .i64 0]) ∧ Reads w' w'.heap.size A n (i32s zs) ∧ Below w.heap.size w w' := by
  obtain ⟨rs, rfl⟩ : ∃ rs : List Nat, zs = Cp.ints rs := by
    refine ⟨zs.map Int.toNat, ?_⟩
    rw [Cp.ints, List.map_map]
    refine (List.map_id zs).symm.trans (List.map_congr_left fun z hz => ?_)
    have := (Cp.valid_iff z).1 (hv z hz)
    simp; omega
  have h1 := Cp.sc_encs rs hv
  have hle := Cp.encs_le (Cp.ints rs)
  have h2 : (⟨(Cp.encs (Cp.ints rs)).toArray⟩ : ByteArray).data.toList = Cp.encs (Cp.ints rs) := by simp
  refine decode_ok' ⟨(Cp.encs (Cp.ints rs)).toArray⟩ w hT (by simp [ByteArray.size]; omega) ?_ rs n ?_ ?_
  · rw [h2, Cp.ok_iff]; exact h1.2
  · rw [h2]; exact h1.1
  · simpa [Cp.ints] using hn

set_option maxHeartbeats 2000000 in
set_option maxRecDepth 100000 in
theorem law9 (s : ByteArray) (A : Option Addr) (n c : Nat) (zs : List Int) (w : World) (hr : Reads w w.heap.size A n (i32s zs)) (_hc : n ≤ c) (hz : ∀ z ∈ zs, -2147483648 ≤ z ∧ z < 2147483648) (hT : Utf8Tabs 0 1 w) :
    Calls Tryd.prog 9 #[.string s, .slice A n c] w fun e w' => e = .returned (.bool true) ∧ Below w.heap.size w w' := by
  have h2 := Cp.tabs_lt hT
  have AW := Lib.hid (awake_any w hT)
  have hlen : zs.length = n := by have := hr.1; simpa [i32s] using this
  have HZ := Lib.hid hz
  have HL := Lib.hid hlen
  clear hz hlen
  by_cases hs : 2000 < s.size
  · go_enter Tryd.func9, Tryd.ntmps9
    go_wp2_with (go_at_call 10; refine (AW.out).mono ?_; rintro e w1 ⟨rfl, hb1⟩)
    go_ret
    exact ⟨rfl, hb1⟩
  · by_cases hn : 500 < n
    · go_enter Tryd.func9, Tryd.ntmps9
      go_wp2_with (go_at_call 10; refine (AW.out).mono ?_; rintro e w1 ⟨rfl, hb1⟩)
      go_ret
      exact ⟨rfl, hb1⟩
    · cases hok : Cp.ok s.data.toList with
      | true =>
        obtain ⟨m, hm⟩ : ∃ m, (Cp.sc s.data.toList).length = m := ⟨_, rfl⟩
        have DC := Lib.hid (fun W hW => decode_ok' s W hW (by omega) hok _ m rfl hm)
        have EB := Lib.hid (encode_back s hok (by omega))
        have HM := Lib.hid hm
        clear hok hm
        go_enter Tryd.func9, Tryd.ntmps9
        go_wp2_with fail
        refine (AW.out).mono ?_
        rintro e w1 ⟨rfl, hb1⟩
        go_wp2_with fail
        refine (DC.out _ (Cp.tabs_below hT hb1 h2)).mono ?_
        rintro e w2 ⟨A2, c2, rfl, hr2, hb2⟩
        have hb2w := hb1.trans (hb2.mono hb1.size)
        go_wp2_with fail
        refine (EB.out A2 m c2 HM.out _ hr2).mono ?_
        rintro e w3 ⟨rfl, hb3⟩
        have hb3w := hb2w.trans (hb3.mono hb2w.size)
        go_wp2_with fail
        refine (encode_any zs A n c _ (hr.on hb3w) HZ.out (by omega)).mono ?_
        rintro e w4 ⟨hcase, hb4⟩
        have hb4w := hb3w.trans (hb4.mono hb3w.size)
        rcases hcase with ⟨hall, rfl⟩ | ⟨hbad, rfl⟩
        · have DB := Lib.hid (fun W hW => decode_back zs hall n HL.out (by omega) W hW)
          clear hall
          obtain ⟨E, hE⟩ : ∃ E : ByteArray, (⟨(Cp.encs zs).toArray⟩ : ByteArray) = E := ⟨_, rfl⟩
          rw [hE] at DB ⊢
          clear hE
          go_wp2_with fail
          refine (DB.out _ (Cp.tabs_below hT hb4w h2)).mono ?_
          rintro e w5 ⟨A5, c5, rfl, hr5, hb5⟩
          have hb5w := hb4w.trans (hb5.mono hb4w.size)
          have SM := Lib.hid (is_same zs A5 A c5 c w5 (by rw [HL.out]; exact hr5) (by rw [HL.out]; exact hr.on hb5w) (by rw [HL.out]; omega))
          rw [HL.out] at SM
          go_wp2_with fail
          refine (SM.out).mono ?_
          rintro e w6 ⟨rfl, k, rfl⟩
          go_wp2_with fail
          go_ret
          exact ⟨rfl, hb5w.os, hb5w.tape, hb5w.output, hb5w.size, hb5w.block⟩
        · clear hbad
          go_wp2_with fail
          go_ret
          exact ⟨rfl, hb4w⟩
      | false =>
        have DC := Lib.hid (fun W hW => decode_bad s W hW hok)
        clear hok
        go_enter Tryd.func9, Tryd.ntmps9
        go_wp2_with fail
        refine (AW.out).mono ?_
        rintro e w1 ⟨rfl, hb1⟩
        go_wp2_with fail
        refine (DC.out _ (Cp.tabs_below hT hb1 h2)).mono ?_
        rintro e w3 ⟨rfl, hb3⟩
        have hb3w := hb1.trans (hb3.mono hb1.size)
        go_wp2_with fail
        refine (encode_any zs A n c _ (hr.on hb3w) HZ.out (by omega)).mono ?_
        rintro e w4 ⟨hcase, hb4⟩
        have hb4w := hb3w.trans (hb4.mono hb3w.size)
        rcases hcase with ⟨hall, rfl⟩ | ⟨hbad, rfl⟩
        · have DB := Lib.hid (fun W hW => decode_back zs hall n HL.out (by omega) W hW)
          clear hall
          obtain ⟨E, hE⟩ : ∃ E : ByteArray, (⟨(Cp.encs zs).toArray⟩ : ByteArray) = E := ⟨_, rfl⟩
          rw [hE] at DB ⊢
          clear hE
          go_wp2_with fail
          refine (DB.out _ (Cp.tabs_below hT hb4w h2)).mono ?_
          rintro e w5 ⟨A5, c5, rfl, hr5, hb5⟩
          have hb5w := hb4w.trans (hb5.mono hb4w.size)
          have SM := Lib.hid (is_same zs A5 A c5 c w5 (by rw [HL.out]; exact hr5) (by rw [HL.out]; exact hr.on hb5w) (by rw [HL.out]; omega))
          rw [HL.out] at SM
          go_wp2_with fail
          refine (SM.out).mono ?_
          rintro e w6 ⟨rfl, k, rfl⟩
          go_wp2_with fail
          go_ret
          exact ⟨rfl, hb5w.os, hb5w.tape, hb5w.output, hb5w.size, hb5w.block⟩
        · clear hbad
          go_wp2_with fail
          go_ret
          exact ⟨rfl, hb4w⟩
end Go.Proofs.YtdbbacmnlmkilaaDoor
