/- CodepointEncodes: the law's walk. -/
import Derived.Test.YtdbbacmnlmkilaaDoorWalkN
import Derived.Test.YtdbbacmnlmkilaaDoorLaw5
namespace Go.Proofs.YtdbbacmnlmkilaaDoor
open Go.RowKit Go.Lib

theorem mk_append (a b : List UInt8) : (⟨a.toArray⟩ : ByteArray) ++ ⟨b.toArray⟩ = ⟨(a ++ b).toArray⟩ := by
  apply ByteArray.ext
  simp
/-- What the reference's Encode answers at a scalar. -/
theorem refenc_valid (z : Int) (h : Cp.valid z = true) (w : World) : Calls Tryd.prog 21 #[.int .i32 z] w fun e w' => e = .returned (.string ⟨(encodeRune z).toArray⟩) ∧ Below w.heap.size w w' := by
  have h1 := (Cp.valid_iff z).1 h
  obtain ⟨a, rfl⟩ : ∃ a : Nat, z = (a : Int) := ⟨z.toNat, by omega⟩
  rw [Cp.encN_eq a h]
  exact refenc_any a (by omega) w

set_option maxHeartbeats 2000000 in
set_option maxRecDepth 100000 in
theorem law8 (A : Option Addr) (n c : Nat) (zs : List Int) (w : World) (hr : Reads w w.heap.size A n (i32s zs)) (_hc : n ≤ c) (hz : ∀ z ∈ zs, -2147483648 ≤ z ∧ z < 2147483648) (hT : Utf8Tabs 0 1 w) :
    Calls Tryd.prog 8 #[.slice A n c] w fun e w' => e = .returned (.bool true) ∧ Below w.heap.size w w' := by
  have h2 := Cp.tabs_lt hT
  have AW := Lib.hid (awake_any w hT)
  have hlen : zs.length = n := by have := hr.1; simpa [i32s] using this
  by_cases hn : 500 < n
  · clear hz hlen
    go_enter Tryd.func8, Tryd.ntmps8
    go_wp2_with (go_at_call 10; refine (AW.out).mono ?_; rintro e w1 ⟨rfl, hb1⟩)
    go_ret
    exact ⟨rfl, hb1⟩
  · have HZ := Lib.hid hz
    have HL := Lib.hid hlen
    clear hz hlen
    go_enter Tryd.func8, Tryd.ntmps8
    go_wp2_with fail
    refine (AW.out).mono ?_
    rintro e w1 ⟨rfl, hb1⟩
    have hr1 := hr.on hb1
    go_wp2_with fail
    refine (encode_any zs A n c _ hr1 HZ.out (by omega)).mono ?_
    rintro e w2 ⟨hcase, hb2⟩
    have hb2w := hb1.trans (hb2.mono hb1.size)
    rcases hcase with ⟨hall, rfl⟩ | ⟨hbad, rfl⟩
    · have HA := Lib.hid hall
      clear hall
      obtain ⟨E, hE⟩ : ∃ E : ByteArray, (⟨(Cp.encs zs).toArray⟩ : ByteArray) = E := ⟨_, rfl⟩
      rw [hE]
      have HE := Lib.hid hE
      clear hE
      go_wp2
      go_loopg [5, 6] n (fun g v i wx => ∃ k : Nat, i = .int .i64 k ∧ k ≤ n ∧ n ≤ k + g ∧ Below w.heap.size w wx ∧ v = .string ⟨(Cp.encs (zs.take k)).toArray⟩)
      case atStart => exact ⟨0, rfl, by omega, by omega, hb2w, rfl⟩
      case round =>
        obtain ⟨k, rfl, hk, hg, hbw, rfl⟩ := hrel
        by_cases hlt : k < n
        · obtain ⟨b, off, u, rfl, hb, hu, hc⟩ := hr.at_ hlt
          obtain ⟨z, hz, rfl⟩ := i32_at hu
          have hcx : wr.cell? ⟨b, off + k, none⟩ = some (.int .i32 z) := (hbw.cell (p := ⟨b, off + k, none⟩) hb).trans hc
          have hv := HA.out z (List.mem_of_getElem? hz)
          have hi0 : (0 : Int) ≤ k := by omega
          have hin : (k : Int) < n := by omega
          obtain ⟨g, rfl⟩ : ∃ g, gk = g + 1 := ⟨gk - 1, by omega⟩
          have hle := Cp.encs_le (zs.take k)
          have htk : (zs.take k).length ≤ n := by rw [List.length_take]; omega
          have h4 := runeCells_le z
          rw [runeCells_length] at h4
          have hap := mk_append (Cp.encs (zs.take k)) (encodeRune z)
          rw [← Cp.encs_snoc _ _ _ hz] at hap
          have hs1 : (⟨(Cp.encs (zs.take k)).toArray⟩ : ByteArray).size ≤ 2000 := by simp [ByteArray.size]; omega
          have hs2 : (⟨(encodeRune z).toArray⟩ : ByteArray).size ≤ 4 := by simp [ByteArray.size]; omega
          have SC := Lib.hid (fun W => (show Calls Tryd.prog 20 #[.int .i32 z] W fun e w' => e = .returned (.bool true) ∧ w' = W by rw [← hv]; exact scalar_any z W))
          have RE := Lib.hid (refenc_valid z hv)
          obtain ⟨T, hT'⟩ : ∃ T : ByteArray, (⟨(Cp.encs (zs.take k)).toArray⟩ : ByteArray) = T := ⟨_, rfl⟩
          obtain ⟨T2, hT2⟩ : ∃ T2 : ByteArray, (⟨(Cp.encs (zs.take (k + 1))).toArray⟩ : ByteArray) = T2 := ⟨_, rfl⟩
          obtain ⟨T1, hT1⟩ : ∃ T1 : ByteArray, (⟨(encodeRune z).toArray⟩ : ByteArray) = T1 := ⟨_, rfl⟩
          rw [hT1] at RE
          rw [hT', hT1] at hap
          rw [hT'] at hs1 ⊢
          rw [hT1] at hs2
          rw [hT2] at hap
          have hadd := add_strings T T1 (by omega)
          have HAP := Lib.hid hap
          clear hap
          have HT2 := Lib.hid hT2
          clear hu hc hle htk h4 hz hv hT' hT2 hT1
          go_wp2_with fail
          refine (SC.out _).mono ?_
          rintro e w' ⟨rfl, rfl⟩
          go_wp2_with fail
          refine (RE.out _).mono ?_
          rintro e w3 ⟨rfl, hb3⟩
          have hb3w := hbw.trans (hb3.mono hbw.size)
          go_wp2_with fail
          go_roundg g
          case measure => omega
          case rel => exact ⟨k + 1, by go_num, by omega, by omega, hb3w, by rw [HAP.out, HT2.out]⟩
        · have hkn : k = n := by omega
          subst hkn
          have hall : zs.take k = zs := List.take_of_length_le (by rw [HL.out]; omega)
          rw [hall, HE.out]
          have hin : ¬ (k : Int) < k := by omega
          clear hall
          go_wp2_with fail
          go_ret
          exact ⟨rfl, hbw⟩
    · have HB := Lib.hid hbad
      clear hbad
      go_wp2
      go_loopg [5, 6] n (fun g v i wx => ∃ k : Nat, i = .int .i64 k ∧ k ≤ n ∧ n ≤ k + g ∧ Below w.heap.size w wx ∧ v = .string ⟨(Cp.encs (zs.take k)).toArray⟩ ∧ ∀ z ∈ zs.take k, Cp.valid z = true)
      case atStart => exact ⟨0, rfl, by omega, by omega, hb2w, rfl, by simp⟩
      case round =>
        obtain ⟨k, rfl, hk, hg, hbw, rfl, hval⟩ := hrel
        have HVL := Lib.hid hval
        clear hval
        by_cases hlt : k < n
        · obtain ⟨b, off, u, rfl, hb, hu, hc⟩ := hr.at_ hlt
          obtain ⟨z, hz, rfl⟩ := i32_at hu
          have hcx : wr.cell? ⟨b, off + k, none⟩ = some (.int .i32 z) := (hbw.cell (p := ⟨b, off + k, none⟩) hb).trans hc
          have hi0 : (0 : Int) ≤ k := by omega
          have hin : (k : Int) < n := by omega
          obtain ⟨g, rfl⟩ : ∃ g, gk = g + 1 := ⟨gk - 1, by omega⟩
          cases hv : Cp.valid z with
          | false =>
            have SC := Lib.hid (fun W => (show Calls Tryd.prog 20 #[.int .i32 z] W fun e w' => e = .returned (.bool false) ∧ w' = W by rw [← hv]; exact scalar_any z W))
            obtain ⟨T, hT'⟩ : ∃ T : ByteArray, (⟨(Cp.encs (zs.take k)).toArray⟩ : ByteArray) = T := ⟨_, rfl⟩
            rw [hT']
            clear hu hc hz hv hT'
            go_wp2_with fail
            refine (SC.out _).mono ?_
            rintro e w' ⟨rfl, rfl⟩
            go_wp2_with fail
            go_ret
            exact ⟨rfl, hbw⟩
          | true =>
            have hle := Cp.encs_le (zs.take k)
            have htk : (zs.take k).length ≤ n := by rw [List.length_take]; omega
            have h4 := runeCells_le z
            rw [runeCells_length] at h4
            have hap := mk_append (Cp.encs (zs.take k)) (encodeRune z)
            rw [← Cp.encs_snoc _ _ _ hz] at hap
            have hs1 : (⟨(Cp.encs (zs.take k)).toArray⟩ : ByteArray).size ≤ 2000 := by simp [ByteArray.size]; omega
            have hs2 : (⟨(encodeRune z).toArray⟩ : ByteArray).size ≤ 4 := by simp [ByteArray.size]; omega
            have SC := Lib.hid (fun W => (show Calls Tryd.prog 20 #[.int .i32 z] W fun e w' => e = .returned (.bool true) ∧ w' = W by rw [← hv]; exact scalar_any z W))
            have RE := Lib.hid (refenc_valid z hv)
            obtain ⟨T, hT'⟩ : ∃ T : ByteArray, (⟨(Cp.encs (zs.take k)).toArray⟩ : ByteArray) = T := ⟨_, rfl⟩
            obtain ⟨T2, hT2⟩ : ∃ T2 : ByteArray, (⟨(Cp.encs (zs.take (k + 1))).toArray⟩ : ByteArray) = T2 := ⟨_, rfl⟩
            obtain ⟨T1, hT1⟩ : ∃ T1 : ByteArray, (⟨(encodeRune z).toArray⟩ : ByteArray) = T1 := ⟨_, rfl⟩
            rw [hT1] at RE
            rw [hT', hT1] at hap
            rw [hT'] at hs1 ⊢
            rw [hT1] at hs2
            rw [hT2] at hap
            have hadd := add_strings T T1 (by omega)
            have HAP := Lib.hid hap
            clear hap
            have HT2 := Lib.hid hT2
            have HV := Lib.hid hv
            have hz' := Lib.hid hz
            clear hu hc hle htk h4 hz hv hT' hT2 hT1
            go_wp2_with fail
            refine (SC.out _).mono ?_
            rintro e w' ⟨rfl, rfl⟩
            go_wp2_with fail
            refine (RE.out _).mono ?_
            rintro e w3 ⟨rfl, hb3⟩
            have hb3w := hbw.trans (hb3.mono hbw.size)
            go_wp2_with fail
            go_roundg g
            case measure => omega
            case rel =>
              refine ⟨k + 1, by go_num, by omega, by omega, hb3w, by rw [HAP.out, HT2.out], fun y hy => ?_⟩
              rw [List.take_add_one, hz'.out] at hy
              simp at hy
              rcases hy with hy | rfl
              · exact HVL.out y (by simpa using hy)
              · exact HV.out
        · have hkn : k = n := by omega
          subst hkn
          have hall : zs.take k = zs := List.take_of_length_le (by rw [HL.out]; omega)
          obtain ⟨z, hz, hv⟩ := HB.out
          have := HVL.out z (by rw [hall]; exact hz)
          rw [hv] at this
          cases this
end Go.Proofs.YtdbbacmnlmkilaaDoor
