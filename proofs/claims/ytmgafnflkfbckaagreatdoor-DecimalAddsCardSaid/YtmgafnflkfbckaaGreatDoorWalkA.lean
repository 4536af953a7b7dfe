/- The contract of norm. -/
import Derived.Test.YtmgafnflkfbckaaGreatDoorMem
namespace Go.Proofs.YtmgafnflkfbckaaGreatDoor
open Go.RowKit Go.Lib

set_option maxHeartbeats 1000000 in
set_option maxRecDepth 100000 in
theorem norm_any (neg : Bool) (A : Option Addr) (n c : Nat) (l : List Nat) (e : Int) (w : World) (hr : Reads w w.heap.size A n (u8s l)) (hc : n ≤ c) (hn : n ≤ 1073741824) (he : -4611686018427387904 ≤ e ∧ e ≤ 4611686018427387904) :
    Calls Tryz.prog 31 #[.bool neg, .slice A n c, .int .i64 e] w fun x w' => ∃ v, x = .returned v ∧ NumAt w' v (Dc.norm neg l e) ∧ Below w.heap.size w w' := by
  have hln : l.length = n := by have := hr.1; rwa [u8s_len] at this
  have hmk := fun n h => make_bytes n h
  have HE := Lib.hid he
  have HLL := Lib.hid hln
  go_enter Tryz.func31, Tryz.ntmps31
  go_upto_block 0 with fail
  obtain ⟨w1, hw1⟩ : ∃ w1 : World, w.alloc (.cells #[.bool false, .slice none 0 0, .int .i64 0] 46) = w1 := ⟨_, rfl⟩
  have hb1 : Below w.heap.size w w1 := by rw [← hw1]; exact (Below.refl _ _).alloc (Nat.le_refl _) _
  have hX1 : w1.heap[w.heap.size]? = some (.cells #[.bool false, .slice none 0 0, .int .i64 0] 46 (0, 0)) := by rw [← hw1]; exact heap_alloc_new w _
  have hr1 : Reads w1 w1.heap.size A n (u8s l) := hr.on hb1
  obtain ⟨X, hX⟩ : ∃ X, w.heap.size = X := ⟨_, rfl⟩
  rw [hw1, hX]
  rw [hX] at hb1 hX1
  go_cut [1] (fun s1 wx => ∃ (m cc : Nat) (A1 : Option Addr) (L : List Nat), s1 = .slice A1 m cc ∧ m ≤ cc ∧ m ≤ n ∧ wx = w1 ∧ Reads w1 w1.heap.size A1 m (u8s L) ∧ Dc.lead l = L)
  case first =>
    go_wp2_with fail
    go_loopg [1] n (fun g i wx => ∃ (k cc : Nat) (A1 : Option Addr), i = .slice A1 (n - k) cc ∧ n - k ≤ cc ∧ k ≤ n ∧ n ≤ k + g ∧ wx = w1 ∧ Reads w1 w1.heap.size A1 (n - k) (u8s (l.drop k)) ∧ Dc.lead l = Dc.lead (l.drop k))
    case atStart => exact ⟨0, c, A, rfl, hc, by omega, by omega, rfl, hr1, rfl⟩
    case round =>
      obtain ⟨k, cc, A1, rfl, hcc, hk, hg, rfl, hrk, hlk⟩ := hrel
      obtain ⟨m, hm⟩ : ∃ m, n - k = m := ⟨_, rfl⟩
      rw [hm] at hrk hcc
      rw [hm]
      by_cases hm0 : m = 0
      · have hnil : l.drop k = [] := List.length_eq_zero_iff.1 (by rw [List.length_drop, HLL.out]; omega)
        rw [hnil] at hlk hrk
        subst hm0
        have HLK := Lib.hid hlk
        clear hlk hnil
        go_wp2_with fail
        go_meet
        exact ⟨0, cc, A1, [], rfl, by omega, by omega, rfl, hrk, HLK.out⟩
      · obtain ⟨b, off, u, rfl, hbB, hu, hcell⟩ := hrk.at_ (k := 0) (by omega)
        obtain ⟨x, hx, rfl⟩ := u8_at hu
        rw [Nat.add_zero] at hcell
        have hin : (0 : Int) < (m : Int) := by omega
        have hgm : m ≤ gk := by omega
        have HM := Lib.hid hm
        have HX := Lib.hid hx
        have HLK := Lib.hid hlk
        clear hm hx hlk
        by_cases hx0 : x = 0
        · have h0 : ((x : Int) == 0) = true := by subst hx0; rfl
          obtain ⟨g, rfl⟩ : ∃ g, gk = g + 1 := ⟨gk - 1, by omega⟩
          have hlen : (u8s (l.drop (k + 1))).length = m - 1 := by rw [u8s_len, List.length_drop, HLL.out]; have := HM.out; omega
          have hdr : u8s (l.drop (k + 1)) = (u8s (l.drop k)).drop 1 := by rw [u8s, u8s, ← List.map_drop, List.drop_drop]
          have hlead : Dc.lead (l.drop k) = Dc.lead (l.drop (k + 1)) := by
            have e := HX.out
            subst hx0
            have : l.drop k = 0 :: l.drop (k + 1) := by
              rw [List.getElem?_drop, Nat.add_zero] at e
              obtain ⟨hlt, e2⟩ := List.getElem?_eq_some_iff.1 e
              rw [List.drop_eq_getElem_cons hlt, e2]
            rw [this, Dc.lead, if_pos rfl]
          have HLN := Lib.hid hlen
          have HDR := Lib.hid hdr
          have HLD := Lib.hid hlead
          clear hlen hdr hlead hx0
          go_wp2_with fail
          · go_roundg g
            case measure => omega
            case rel =>
              have hm1 : m = 1 := by omega
              refine ⟨k + 1, 0, some ⟨b, off, none⟩, by rw [show n - (k + 1) = m - 1 by have := HM.out; omega], by have := HM.out; omega, by have := HM.out; omega, by omega, rfl, ?_, by rw [HLK.out, HLD.out]⟩
              rw [show n - (k + 1) = 0 by have := HM.out; omega]
              exact ⟨by rw [HLN.out]; omega, fun h => absurd h (by omega)⟩
          · go_roundg g
            case measure => omega
            case rel =>
              refine ⟨k + 1, cc - 1, some ⟨b, off + 1, none⟩, by rw [show n - (k + 1) = m - 1 by have := HM.out; omega], by have := HM.out; omega, by have := HM.out; omega, by omega, rfl, ?_, by rw [HLK.out, HLD.out]⟩
              rw [HDR.out, show n - (k + 1) = m - 1 by have := HM.out; omega]
              exact hrk.drop 1 (by omega) b off rfl
        · have h0 : ((x : Int) == 0) = false := by simp; omega
          have hne := Lib.hid hx0
          clear hx0
          go_wp2_with fail
          go_meet
          refine ⟨m, cc, some ⟨b, off, none⟩, l.drop k, rfl, hcc, by have := HM.out; omega, rfl, hrk, ?_⟩
          rw [HLK.out]
          refine Dc.lead_stop (x := x) ?_ hne.out
          rw [List.head?_eq_getElem?]; exact HX.out
  case rest =>
    obtain ⟨m, cc, A1, L, rfl, hmc, hmn, rfl, hrL, hL⟩ := hcut
    have hLm : L.length = m := by have := hrL.1; rwa [u8s_len] at this
    have HL := Lib.hid hL
    have HLM := Lib.hid hLm
    clear hL hr1 hln
    go_upto_block 2 with fail
    go_cut [1, 2] (fun s1 s2 wx => ∃ (m2 : Nat), s1 = .slice A1 m2 cc ∧ m2 ≤ m ∧ s2 = .int .i64 (e + ((m - m2 : Nat) : Int)) ∧ wx = wc ∧ Dc.trail L = m - m2)
    case first =>
      go_wp2_with fail
      go_loopg [1, 2] m (fun g i ie wx => ∃ (m2 : Nat), i = .slice A1 m2 cc ∧ m2 ≤ m ∧ m2 ≤ g ∧ ie = .int .i64 (e + ((m - m2 : Nat) : Int)) ∧ wx = wc ∧ ∀ j u, m2 ≤ j → L[j]? = some u → u = 0)
      case atStart => exact ⟨m, rfl, Nat.le_refl _, Nat.le_refl _, by simp, rfl, fun j u hj hu => by rw [List.getElem?_eq_none (by omega)] at hu; cases hu⟩
      case round =>
        obtain ⟨m2, rfl, hm2, hg, rfl, rfl, hz⟩ := hrel
        have HZ := Lib.hid hz
        clear hz
        by_cases hm0 : m2 = 0
        · subst hm0
          obtain ⟨E, hE⟩ : ∃ E, e + ((m - 0 : Nat) : Int) = E := ⟨_, rfl⟩
          rw [hE]
          have HEE := Lib.hid hE
          clear hE
          go_wp2_with fail
          go_meet
          refine ⟨0, rfl, by omega, by rw [HEE.out], rfl, ?_⟩
          refine Dc.trail_is (by rw [HLM.out]; omega) (fun j u hj hu => HZ.out j u (by rw [HLM.out] at hj; omega) hu) (Or.inl (by rw [HLM.out]; omega))
        · obtain ⟨q, rfl⟩ : ∃ q, m2 = q + 1 := ⟨m2 - 1, by omega⟩
          obtain ⟨b, off, u, rfl, hbB, hu, hcell⟩ := hrL.at_ (k := q) (by omega)
          obtain ⟨x, hx, rfl⟩ := u8_at hu
          have hin : (0 : Int) < ((q + 1 : Nat) : Int) := by omega
          obtain ⟨E, hE⟩ : ∃ E, e + ((m - (q + 1) : Nat) : Int) = E := ⟨_, rfl⟩
          rw [hE]
          have hE1 : E + 1 = e + ((m - q : Nat) : Int) := by omega
          have hEb : -9223372036854775808 ≤ E + 1 ∧ E + 1 ≤ 9223372036854775807 := by have := HE.out; omega
          have HEE := Lib.hid hE
          have HE1 := Lib.hid hE1
          have HX := Lib.hid hx
          clear hE hE1 hx hu
          by_cases hx0 : x = 0
          · have h0 : ((x : Int) == 0) = true := by subst hx0; rfl
            obtain ⟨g, rfl⟩ : ∃ g, gk = g + 1 := ⟨gk - 1, by omega⟩
            have HX0 := Lib.hid hx0
            clear hx0
            go_wp2_with fail
            go_roundg g
            case measure => omega
            case rel =>
              refine ⟨q, by go_num, by omega, by omega, by rw [← HE1.out], rfl, fun j u hj hu => ?_⟩
              by_cases hjq : j = q
              · subst hjq
                have := HX.out
                rw [hu] at this
                rw [Option.some.inj this]; exact HX0.out
              · exact HZ.out j u (by omega) hu
          · have h0 : ((x : Int) == 0) = false := by simp; omega
            have HX0 := Lib.hid hx0
            clear hx0
            go_wp2_with fail
            go_meet
            refine ⟨q + 1, rfl, hm2, by rw [HEE.out], rfl, ?_⟩
            refine Dc.trail_is (by rw [HLM.out]; omega) (fun j u hj hu => HZ.out j u (by rw [HLM.out] at hj; omega) hu) (Or.inr ⟨x, ?_, HX0.out⟩)
            rw [show L.length - (m - (q + 1)) - 1 = q by rw [HLM.out]; omega]; exact HX.out
    case rest =>
      obtain ⟨m2, rfl, hm2, rfl, rfl, ht⟩ := hcut
      obtain ⟨E, hE⟩ : ∃ E, e + ((m - m2 : Nat) : Int) = E := ⟨_, rfl⟩
      rw [hE]
      have HT := Lib.hid ht
      have HEE := Lib.hid hE
      have x0 := at_block hX1 0 _ rfl
      have x1 := at_block hX1 1 _ rfl
      have x2 := at_block hX1 2 _ rfl
      have f0 := free_block hX1 0
      have f1 := free_block hX1 1
      have f2 := free_block hX1 2
      have hXlt := lt_of_block hX1
      have HX1 := Lib.hid hX1
      have HXX := Lib.hid hX
      clear ht hE hX1 hX
      by_cases hm0 : m2 = 0
      · subst hm0
        have hLn : L = [] := by
          have h1 := HT.out
          cases hL : L with
          | nil => rfl
          | cons y L' =>
            exfalso
            have h2 := Dc.lead_nonzero (l := l) (by rw [HL.out, hL]; simp)
            rw [HL.out] at h2
            apply h2
            apply List.length_eq_zero_iff.1
            rw [Dc.core_len]; omega
        have HLn := Lib.hid hLn
        clear hLn
        go_wp2_with fail
        refine bodyPost_ret (v := .agg #[.bool false, .slice none 0 0, .int .i64 0]) (by simp [results, Tryz.results31, go_sem, x0, x1, x2]) rfl ?_
        have hnorm : Dc.norm neg l e = ⟨false, [], 0⟩ := by rw [Dc.norm, HL.out, HLn.out, if_pos rfl]
        refine ⟨_, rfl, ⟨none, by rw [hnorm]; rfl, by rw [hnorm]; exact Reads.none_⟩, ?_⟩
        rw [HXX.out]
        exact ((hb1.setCell (p := ⟨X, 0, none⟩) (Nat.le_refl _) _).setCell (p := ⟨X, 1, none⟩) (Nat.le_refl _) _).setCell (p := ⟨X, 2, none⟩) (Nat.le_refl _) _
      · have hne0 : ((m2 : Int) == 0) = false := by simp; omega
        obtain ⟨Z, hZ⟩ : ∃ Z, u8s (List.replicate m2 0) = Z := ⟨_, rfl⟩
        have hmk2 := fun W => hmk m2 (by omega) W
        rw [hZ] at hmk2
        have hZl : Z.length = m2 := by rw [← hZ, u8s_len, List.length_replicate]
        obtain ⟨C, hC⟩ : ∃ C, Dc.core L = C := ⟨_, rfl⟩
        have hCl : C.length = m2 := by rw [← hC, Dc.core_len, HLM.out, HT.out]; omega
        obtain ⟨CS, hCS⟩ : ∃ CS, u8s C = CS := ⟨_, rfl⟩
        have hCSl : CS.length = m2 := by rw [← hCS, u8s_len, hCl]
        have hrC : Reads wc wc.heap.size A1 m2 CS := by
          have h := hrL.take m2 hm2
          have e : (u8s L).take m2 = CS := by rw [← hCS, ← hC, Dc.core, HLM.out, HT.out, u8s, u8s, List.map_take, show m - (m - m2) = m2 by omega]
          rwa [e] at h
        have hone : ∀ v ∈ CS, v.oneCell' = true := by rw [← hCS]; exact u8s_one _
        have hsp : splice Z 0 CS = CS := splice_all Z CS (by rw [hCSl, hZl])
        have HCL := Lib.hid hCSl
        have HCC := Lib.hid hC
        have HCS := Lib.hid hCS
        have HCl := Lib.hid hCl
        have HSP := Lib.hid hsp
        have HZL := Lib.hid hZl
        have HM0 := Lib.hid hm0
        obtain ⟨G, hG⟩ : ∃ G, wc.heap.size = G := ⟨_, rfl⟩
        have HGG := Lib.hid hG
        have hm2w : m2 ≤ 1073741824 := by omega
        clear hZ hC hCS hCl hCSl hsp hZl hm0 hmk hG
        go_wp2_with (with_reducible refine wpList_copy_splice rfl (.tmp 45) (.tmp 46) 44 44 rfl 5 Tryz.underlying44 size5 (some ⟨wc.heap.size, 0, none⟩) A1 m2 m2 m2 cc rfl rfl wc.heap.size 0 Z 5 (heap_alloc_new wc _) CS (by rw [HCL.out]; exact (Nat.min_self m2).symm) (by intro hp; refine ⟨rfl, ?_⟩; obtain ⟨ad, e1, e2, e3⟩ := hrC.src (by rw [← HCL.out]; exact hp); exact ⟨ad, e1, fun j v hv => (World.cell?_alloc_lt wc _ _ (by rw [block_of_add]; exact e2)).trans (e3 j v hv)⟩) (by rw [HCL.out, HZL.out]; omega) hone wc.heap.size (wc.alloc (.cells Z.toArray 5)) (Below.refl _ _) (Nat.le_refl _) ?_; intro w5 hX5 hb5; have hq := ((hb5.block X hXlt).trans (Below.heap_alloc wc _ _ hXlt)).trans HX1.out; clear x0 x1 x2 f0 f1 f2; have x0 := at_block hq 0 _ rfl; have x1 := at_block hq 1 _ rfl; have x2 := at_block hq 2 _ rfl; have f0 := free_block hq 0; have f1 := free_block hq 1; have f2 := free_block hq 2; have HQ := Lib.hid hq; clear hq)
        refine bodyPost_ret (v := .agg #[.bool neg, .slice (some ⟨wc.heap.size, 0, none⟩) m2 m2, .int .i64 E]) (by simp [results, Tryz.results31, go_sem, x0, x1, x2]) rfl ?_
        have hLne : L ≠ [] := by
          intro h
          have h1 := HLM.out
          rw [h] at h1
          have h2 := HM0.out
          simp at h1; omega
        have hnorm : Dc.norm neg l e = ⟨neg, C, E⟩ := by
          rw [Dc.norm, HL.out, if_neg hLne, HT.out, HEE.out, HCC.out]
        have hX5' := hX5.out
        rw [HSP.out] at hX5'
        have hX6 : ((((w5.setCell ⟨X, 0, none⟩ (.bool neg)).setCell ⟨X, 1, none⟩ (.slice (some ⟨wc.heap.size, 0, none⟩) m2 m2)).setCell ⟨X, 2, none⟩ (.int .i64 E))).heap[wc.heap.size]? = some (.cells CS.toArray 5 (0, 0)) := by
          rw [Below.heap_setCell _ _ _ _ (show wc.heap.size ≠ X by omega), Below.heap_setCell _ _ _ _ (show wc.heap.size ≠ X by omega), Below.heap_setCell _ _ _ _ (show wc.heap.size ≠ X by omega)]
          exact hX5'
        have hrd := Reads.of_block hX6
        rw [HCL.out, ← HCS.out] at hrd
        refine ⟨_, rfl, ⟨some ⟨wc.heap.size, 0, none⟩, by rw [hnorm, HCl.out], by rw [hnorm, HCl.out]; exact hrd⟩, ?_⟩
        rw [HXX.out]
        have hb6 : Below X w w5 := hb1.trans (((Below.refl _ _).alloc (by omega) _).trans (hb5.mono (by omega)))
        exact ((hb6.setCell (p := ⟨X, 0, none⟩) (Nat.le_refl _) _).setCell (p := ⟨X, 1, none⟩) (Nat.le_refl _) _).setCell (p := ⟨X, 2, none⟩) (Nat.le_refl _) _
end Go.Proofs.YtmgafnflkfbckaaGreatDoor
