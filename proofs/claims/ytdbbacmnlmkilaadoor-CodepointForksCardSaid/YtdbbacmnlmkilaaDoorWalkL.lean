/- The contract of the reference's 'Extensible'. -/
import Derived.Test.YtdbbacmnlmkilaaDoorLaw3
namespace Go.Proofs.YtdbbacmnlmkilaaDoor
open Go.RowKit Go.Lib

theorem Cp.extensible_ok {l : List UInt8} (h : Cp.ok l = true) : Cp.extensible l = true := by
  have h1 := (Cp.ok_iff l).1 h
  unfold Cp.extensible Cp.rest
  rw [h1, List.drop_length]; rfl
theorem Cp.extensible_bad {l : List UInt8} (h : Cp.ok l = false) : 1 ≤ (Cp.rest l).length ∧ Cp.extensible l = (decide ((Cp.rest l).length ≤ 3) && Cp.ext (Cp.rest l)) := by
  have h1 := (Cp.ok_false l).1 h
  have h2 : 1 ≤ (Cp.rest l).length := by unfold Cp.rest; rw [List.length_drop]; omega
  refine ⟨h2, ?_⟩
  unfold Cp.extensible
  rw [List.isEmpty_eq_false_iff.2 (by intro h3; rw [h3] at h2; simp at h2), Bool.false_or]

set_option maxHeartbeats 1000000 in
set_option maxRecDepth 100000 in
theorem extens_any (s : ByteArray) (w : World) (hs : s.size ≤ 1073741824) : Calls Tryd.prog 16 #[.string s] w fun e w' => e = .returned (.bool (Cp.extensible s.data.toList)) ∧ Below w.heap.size w w' := by
  cases h : Cp.ok s.data.toList with
  | true =>
    have C := Lib.hid (refdec_ok s w hs h)
    rw [Cp.extensible_ok h]
    clear h
    go_enter Tryd.func16, Tryd.ntmps16
    go_wp2_with (go_at_call 11; refine (C.out).mono ?_; rintro e w' ⟨v, rfl, _, hb⟩)
    go_ret
    exact ⟨rfl, hb⟩
  | false =>
    have C := Lib.hid (refdec_bad s w hs h)
    obtain ⟨hr1, he⟩ := Cp.extensible_bad h
    rw [he]
    have hu := (Cp.ok_false _).1 h
    rw [Cp.len_data] at hu
    have hrl : (Cp.rest s.data.toList).length = s.size - Cp.used s.data.toList := by unfold Cp.rest; rw [List.length_drop, Cp.len_data]
    obtain ⟨u, hu'⟩ : ∃ u, Cp.used s.data.toList = u := ⟨_, rfl⟩
    have hx : (s.extract u s.size).data.toList = Cp.rest s.data.toList := by
      unfold Cp.rest
      rw [hu', extract_data, List.take_of_length_le (by rw [List.length_drop, ← size_eq]; omega)]
    rw [hu'] at C hu hrl
    obtain ⟨r, hr⟩ : ∃ r, Cp.rest s.data.toList = r := ⟨_, rfl⟩
    rw [hr] at hr1 hrl hx ⊢
    have hxs : (s.extract u s.size).size = r.length := by rw [Lib.size_eq, hx]
    have HRL := Lib.hid hrl
    have HX := Lib.hid hx
    have HXS := Lib.hid hxs
    have HR1 := Lib.hid hr1
    have B := Lib.hid (fun W => bytes_of W (s.extract u s.size))
    clear h he hu' hr hx hrl hxs hr1
    go_enter Tryd.func16, Tryd.ntmps16
    go_wp2_with fail
    refine (C.out).mono ?_
    rintro e w1 ⟨v, rfl, _, hb1⟩
    obtain ⟨cap, W', hrun, hbW, hlt, hcap, hcell⟩ := B.out w1
    rw [HX.out] at hcell
    have hrl := HRL.out
    have hxs := HXS.out
    have hr1 := HR1.out
    rw [hxs] at hrun hcap
    obtain ⟨n, hn⟩ : ∃ n, r.length = n := ⟨_, rfl⟩
    rw [hn] at hrun hcap hrl hr1
    have HN := Lib.hid hn
    have HC := Lib.hid hcell
    have hbf : Below w.heap.size w W' := hb1.trans (hbW.mono hb1.size)
    clear hcell hn hxs hrl
    by_cases h3 : n ≤ 3
    · have hz := fun off => begins_any r w1.heap.size off cap W'
      have cB := hz 0 (fun j d hd => by rw [Nat.zero_add]; exact HC.out j d hd) (by rw [HN.out]; exact hr1) (by rw [HN.out]; omega)
      rw [HN.out] at cB
      have hext := Cp.ext_eq r (by rw [HN.out]; exact hr1) (by rw [HN.out]; exact h3)
      rw [HN.out] at hext
      obtain ⟨b, hb⟩ : ∃ b, Cp.begins r = b := ⟨_, rfl⟩
      rw [hb] at cB hext
      obtain ⟨b1, b2⟩ := b
      simp only at cB hext
      have CB := Lib.hid cB
      have HE := Lib.hid hext
      clear cB hz hb hext
      have hd : decide (n ≤ 3) = true := by simpa using h3
      have HD := Lib.hid hd
      clear hd
      go_wp2_with fail
      refine (CB.out).mono ?_
      rintro e w' ⟨rfl, rfl⟩
      go_wp2_with fail
      go_ret
      rw [HN.out, HD.out, HE.out]
      exact ⟨by simp, hbf⟩
    · have hd : decide (n ≤ 3) = false := by simpa using h3
      have HD := Lib.hid hd
      have h3' : (3 : Int) < (n : Int) := by omega
      clear hd h3
      go_wp2_with fail
      go_ret
      rw [HN.out, HD.out]
      exact ⟨rfl, hbf⟩
end Go.Proofs.YtdbbacmnlmkilaaDoor
