/- The reference's 'begins' at a lead byte that announces 2 bytes. Written by gen_walkD.py. -/
import Derived.Test.YtdbbacmnlmkilaaDoorWalkD
namespace Go.Proofs.YtdbbacmnlmkilaaDoor
open Go.RowKit Go.Lib

set_option maxHeartbeats 4000000 in
set_option maxRecDepth 100000 in
theorem begins_w2 (x V : Nat) (t : List UInt8) (b off cap : Nat) (w : World) (hc0 : w.cell? ⟨b, off, none⟩ = some (.int .u8 (x : Int))) (hr : ∀ j d, t[j]? = some d → w.cell? ⟨b, off + (j + 1), none⟩ = some (.int .u8 (UInt8.toNat d : Int)))
    (g1 : 192 ≤ x) (g2 : x < 224) (hV : x = V + 192) (hV64 : V < 64) (n : Nat) (hN : t.length + 1 = n) (hn : n ≤ 2) :
    Calls Tryd.prog 27 #[.slice (some ⟨b, off, none⟩) n cap] w fun e w' => e = .returned (.tuple #[.int .i64 ((Cp.bres V 2 128 2047 t).1 : Int), .int .i64 ((Cp.bres V 2 128 2047 t).2 : Int)]) ∧ w = w' := by
  have hn0 : 0 < n := by omega
  have HN := Lib.hid hN
  have HR := Lib.hid hr
  have HV := Lib.hid hV
  have hV1 : (x : Int) - 192 = (V : Int) := by omega
  have HV1 := Lib.hid hV1
  clear hN hr hV hV1
  go_enter Tryd.func27, Tryd.ntmps27
  go_wp2
  go_loopg [6, 9] n (fun g v i wx => w = wx ∧ ∃ k : Nat, i = .int .i64 (k + 1 : Nat) ∧ v = .int .i64 (Cp.val V (t.take k) : Nat) ∧ k + 1 ≤ n ∧ Cp.cont (t.take k) = true ∧ n ≤ k + 1 + g)
  case atStart => exact ⟨rfl, 0, rfl, by rw [HV1.out]; rfl, by omega, rfl, by omega⟩
  case round =>
    obtain ⟨rfl, k, rfl, rfl, hk, hct, hfu⟩ := hrel
    have hv := Cp.val_lt hV64 (t.take k) hct
    have hl : (t.take k).length ≤ 3 := by have := HN.out; simp; omega
    have hv2 : Cp.val V (t.take k) < 16777216 := Nat.lt_of_lt_of_le hv (Cp.pow64 (by omega))
    obtain ⟨v, hvv⟩ : ∃ v, Cp.val V (t.take k) = v := ⟨_, rfl⟩
    rw [hvv] at hv hv2 ⊢
    have HVV := Lib.hid hvv
    have HCT := Lib.hid hct
    have Hv := Lib.hid hv
    clear hvv hct hv hl
    by_cases hlt : k + 1 < n
    · obtain ⟨d, hd⟩ : ∃ d, t[k]? = some d := ⟨t[k]'(by have := HN.out; omega), List.getElem?_eq_getElem _⟩
      have hcell := HR.out k d hd
      have hd256 := d.toNat_lt
      obtain ⟨y, hy⟩ : ∃ y, d.toNat = y := ⟨_, rfl⟩
      rw [hy] at hcell hd256
      have HD := Lib.hid hd
      have HY := Lib.hid hy
      clear hd hy
      obtain ⟨g, rfl⟩ : ∃ g, gk = g + 1 := ⟨gk - 1, by omega⟩
      have hlt1 : ((k : Int) + 1) < n := by omega
      by_cases y1 : y < 128
      · go_wp2
        go_ret2
        exact ⟨ret2 (Cp.bres_cont (Cp.cont_false HD.out (by rw [HY.out]; omega))), rfl⟩
      · by_cases y2 : 191 < y
        · go_wp2
          go_ret2
          exact ⟨ret2 (Cp.bres_cont (Cp.cont_false HD.out (by rw [HY.out]; omega))), rfl⟩
        · go_wp2
          go_roundg g
          case measure => omega
          case rel =>
            have et : t.take (k + 1) = t.take k ++ [d] := by rw [List.take_add_one, HD.out]; rfl
            refine ⟨rfl, k + 1, by go_num, ?_, by omega, ?_, by omega⟩
            · rw [et, Cp.val_snoc, HVV.out, HY.out]; go_num
            · rw [et, Cp.cont_snoc, HCT.out, HY.out]; simp; omega
    · have hkt : t.take k = t := List.take_of_length_le (by have := HN.out; omega)
      have h1 := HVV.out
      have h2 := HCT.out
      have h3 := Hv.out
      rw [hkt] at h1 h2 h3
      have e3 : t.length + 1 = n := HN.out
      rw [e3] at h3
      have HVF := Lib.hid h1
      have HCF := Lib.hid h2
      have HB := Lib.hid h3
      clear h1 h2 h3 HVV HCT hkt Hv e3
      have hlt1 : ¬ ((k : Int) + 1) < n := by omega
      clear hlt
      go_wp2
      go_loopg [10, 11, 12] 4 (fun g lo hi i wx => w = wx ∧ ∃ j : Nat, lo = .int .i64 (Cp.lows j v : Nat) ∧ hi = .int .i64 (Cp.highs j v : Nat) ∧ i = .int .i64 (n + j : Nat) ∧ n + j ≤ 2 ∧ 2 ≤ n + j + g)
      case atStart => exact ⟨rfl, 0, rfl, rfl, rfl, by omega, by omega⟩
      case round =>
        obtain ⟨rfl, j, rfl, rfl, rfl, hj, hfu2⟩ := hrel
        have hh : Cp.highs j v < 16777216 := Nat.lt_of_lt_of_le (Cp.highs_lt HB.out j) (Cp.pow64 (by omega))
        have hll := Cp.lows_le v j
        obtain ⟨lo, hlo⟩ : ∃ lo, Cp.lows j v = lo := ⟨_, rfl⟩
        obtain ⟨hi, hhi⟩ : ∃ hi, Cp.highs j v = hi := ⟨_, rfl⟩
        rw [hlo, hhi] at hll ⊢
        rw [hhi] at hh
        have HLO := Lib.hid hlo
        have HHI := Lib.hid hhi
        clear hlo hhi
        by_cases hjn : n + j < 2
        · have hjn1 : (n : Int) + (j : Int) < 2 := by omega
          obtain ⟨g, rfl⟩ : ∃ g, gk = g + 1 := ⟨gk - 1, by omega⟩
          go_wp2
          go_roundg g
          case measure => omega
          case rel =>
            refine ⟨rfl, j + 1, ?_, ?_, by go_num, by omega, by omega⟩
            · show _ = Value.int .i64 ((64 * Cp.lows j v : Nat) : Int); rw [HLO.out]; go_num
            · show _ = Value.int .i64 ((64 * Cp.highs j v + 63 : Nat) : Int); rw [HHI.out]; go_num
        · have hjn1 : ¬ (n : Int) + (j : Int) < 2 := by omega
          have hjW : n + j = 2 := by omega
          have HJW := Lib.hid hjW
          have e1 : Cp.lows j (Cp.val V t) = lo := by rw [HVF.out]; exact HLO.out
          have e2 : Cp.highs j (Cp.val V t) = hi := by rw [HVF.out]; exact HHI.out
          have E1 := Lib.hid e1
          have E2 := Lib.hid e2
          clear hjW e1 e2
          by_cases a1 : hi < 128
          · go_wp2
            go_ret2
            exact ⟨ret2 (Cp.bres_out HCF.out HN.out HJW.out E1.out E2.out (by omega)), rfl⟩
          · by_cases a2 : 2047 < lo
            · go_wp2
              go_ret2
              exact ⟨ret2 (Cp.bres_out HCF.out HN.out HJW.out E1.out E2.out (by omega)), rfl⟩
            · by_cases a3 : 55296 ≤ lo
              · by_cases a4 : hi ≤ 57343
                · first
                  | (exfalso; omega)
                  | (go_wp2
                     go_ret2
                     exact ⟨ret2 (Cp.bres_out HCF.out HN.out HJW.out E1.out E2.out (by omega)), rfl⟩)
                · first
                  | (exfalso; omega)
                  | (go_wp2
                     go_ret2
                     exact ⟨ret2 (Cp.bres_in HCF.out HN.out HJW.out E1.out E2.out (by omega)), rfl⟩)
              · go_wp2
                go_ret2
                exact ⟨ret2 (Cp.bres_in HCF.out HN.out HJW.out E1.out E2.out (by omega)), rfl⟩
end Go.Proofs.YtdbbacmnlmkilaaDoor
