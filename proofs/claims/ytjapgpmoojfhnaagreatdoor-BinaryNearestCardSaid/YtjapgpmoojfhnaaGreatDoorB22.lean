/- decimal.Valid: the contracts of norm, limit, digits, text, bytes, integer.read and read, and of Valid. -/
import Derived.Test.YtjapgpmoojfhnaaGreatDoorB17
import Derived.Test.YtjapgpmoojfhnaaGreatDoorB19
import Derived.Test.YtjapgpmoojfhnaaGreatDoorB21
import Derived.Lib.AppendIntMem
import Derived.RegionTactic
import Derived.BigRegion
import Derived.ChangeAlike
set_option maxHeartbeats 16000000
set_option maxRecDepth 100000
set_option linter.unusedSimpArgs false
set_option linter.unusedVariables false
namespace Go.Proofs.YtjapgpmoojfhnaaGreatDoor
open Go.RowKit Go.Lib
theorem norm_any (neg : Bool) (A : Option Addr) (n c : Nat) (l : List Nat) (e : Int) (w : World) (hr : Reads w w.heap.size A n (u8s l)) (hc : n ≤ c) (hn : n ≤ 1073741824) (he : -4611686018427387904 ≤ e ∧ e ≤ 4611686018427387904) :
 Calls Tryz.prog 107 #[.bool neg, .slice A n c, .int .i64 e] w fun x w' => ∃ v, x = .returned v ∧ NumAt w' v (Dc.norm neg l e) ∧ Below w.heap.size w w' := by
 have hln : l.length = n := by have := hr.1; rwa [u8s_len] at this
 have hmk := fun n h => make_bytes n h
 have HE := Lib.hid he
 have HLL := Lib.hid hln
 go_enter Tryz.func107, Tryz.ntmps107
 go_upto_block 0 with fail
 obtain ⟨w1, hw1⟩ : ∃ w1 : World, w.alloc (.cells #[.bool false, .slice none 0 0, .int .i64 0] 104) = w1 := ⟨_, rfl⟩
 have hb1 : Below w.heap.size w w1 := by rw [← hw1]; exact (Below.refl _ _).alloc (Nat.le_refl _) _
 have hX1 : w1.heap[w.heap.size]? = some (.cells #[.bool false, .slice none 0 0, .int .i64 0] 104 (0, 0)) := by rw [← hw1]; exact heap_alloc_new w _
 have hr1 : Reads w1 w1.heap.size A n (u8s l) := hr.on hb1
 obtain ⟨X, hX⟩ : ∃ X, w.heap.size = X := ⟨_, rfl⟩
 rw [hw1, hX]
 rw [hX] at hb1 hX1
 go_cut [1] (fun s1 wx => ∃ (m cc : Nat) (A1 : Option Addr) (L : List Nat), s1 = .slice A1 m cc ∧ m ≤ cc ∧ m ≤ n ∧ wx = w1 ∧ Reads w1 w1.heap.size A1 m (u8s L) ∧ Dc.lead l = L)
 case first =>
  go_wp2_with fail
  go_loopg [1] n (fun g i wx => ∃ (k cc : Nat) (A1 : Option Addr), i = .slice A1 (n - k) cc ∧ n - k ≤ cc ∧ k ≤ n ∧ n ≤ k + g ∧ wx = w1 ∧ Reads w1 w1.heap.size A1 (n - k) (u8s (l.drop k)) ∧ Dc.lead l = Dc.lead (l.drop k))
  case atStart => exact ⟨0, c, A, rfl, hc, by omega, by omega, rfl, hr1, rfl⟩
  case round =>
   obtain ⟨k, cc, A1, rfl, hcc, hk, hg, rfl, hrk, hlk⟩ := hrel
   obtain ⟨m, hm⟩ : ∃ m, n - k = m := ⟨_, rfl⟩
   rw [hm] at hrk hcc
   rw [hm]
   by_cases hm0 : m = 0
   · have hnil : l.drop k = [] := List.length_eq_zero_iff.1 (by rw [List.length_drop, HLL.out]; omega)
     rw [hnil] at hlk hrk
     subst hm0
     have HLK := Lib.hid hlk
     clear hlk hnil
     go_wp2_with fail
     go_meet
     exact ⟨0, cc, A1, [], rfl, by omega, by omega, rfl, hrk, HLK.out⟩
   · obtain ⟨b, off, u, rfl, hbB, hu, hcell⟩ := hrk.at_ (k := 0) (by omega)
     obtain ⟨x, hx, rfl⟩ := u8_at hu
     rw [Nat.add_zero] at hcell
     have hin : (0 : Int) < (m : Int) := by omega
     have hgm : m ≤ gk := by omega
     have HM := Lib.hid hm
     have HX := Lib.hid hx
     have HLK := Lib.hid hlk
     clear hm hx hlk
     by_cases hx0 : x = 0
     · have h0 : ((x : Int) == 0) = true := by subst hx0; rfl
       obtain ⟨g, rfl⟩ : ∃ g, gk = g + 1 := ⟨gk - 1, by omega⟩
       have hlen : (u8s (l.drop (k + 1))).length = m - 1 := by rw [u8s_len, List.length_drop, HLL.out]; have := HM.out; omega
       have hdr : u8s (l.drop (k + 1)) = (u8s (l.drop k)).drop 1 := by rw [u8s, u8s, ← List.map_drop, List.drop_drop]
       have hlead : Dc.lead (l.drop k) = Dc.lead (l.drop (k + 1)) := by
        have e := HX.out
        subst hx0
        have : l.drop k = 0 :: l.drop (k + 1) := by
         rw [List.getElem?_drop, Nat.add_zero] at e
         obtain ⟨hlt, e2⟩ := List.getElem?_eq_some_iff.1 e
         rw [List.drop_eq_getElem_cons hlt, e2]
        rw [this, Dc.lead, if_pos rfl]
       have HLN := Lib.hid hlen
       have HDR := Lib.hid hdr
       have HLD := Lib.hid hlead
       clear hlen hdr hlead hx0
       go_wp2_with fail
       · go_roundg g
         case measure => omega
         case rel =>
          have hm1 : m = 1 := by omega
          refine ⟨k + 1, 0, some ⟨b, off, none⟩, by rw [show n - (k + 1) = m - 1 by have := HM.out; omega], by have := HM.out; omega, by have := HM.out; omega, by omega, rfl, ?_, by rw [HLK.out, HLD.out]⟩
          rw [show n - (k + 1) = 0 by have := HM.out; omega]
          exact ⟨by rw [HLN.out]; omega, fun h => absurd h (by omega)⟩
       · go_roundg g
         case measure => omega
         case rel =>
          refine ⟨k + 1, cc - 1, some ⟨b, off + 1, none⟩, by rw [show n - (k + 1) = m - 1 by have := HM.out; omega], by have := HM.out; omega, by have := HM.out; omega, by omega, rfl, ?_, by rw [HLK.out, HLD.out]⟩
          rw [HDR.out, show n - (k + 1) = m - 1 by have := HM.out; omega]
          exact hrk.drop 1 (by omega) b off rfl
     · have h0 : ((x : Int) == 0) = false := by simp; omega
       have hne := Lib.hid hx0
       clear hx0
       go_wp2_with fail
       go_meet
       refine ⟨m, cc, some ⟨b, off, none⟩, l.drop k, rfl, hcc, by have := HM.out; omega, rfl, hrk, ?_⟩
       rw [HLK.out]
       refine Dc.lead_stop (x := x) ?_ hne.out
       rw [List.head?_eq_getElem?]; exact HX.out
 case rest =>
  obtain ⟨m, cc, A1, L, rfl, hmc, hmn, rfl, hrL, hL⟩ := hcut
  have hLm : L.length = m := by have := hrL.1; rwa [u8s_len] at this
  have HL := Lib.hid hL
  have HLM := Lib.hid hLm
  clear hL hr1 hln
  go_upto_block 2 with fail
  go_cut [1, 2] (fun s1 s2 wx => ∃ (m2 : Nat), s1 = .slice A1 m2 cc ∧ m2 ≤ m ∧ s2 = .int .i64 (e + ((m - m2 : Nat) : Int)) ∧ wx = wc ∧ Dc.trail L = m - m2)
  case first =>
   go_wp2_with fail
   go_loopg [1, 2] m (fun g i ie wx => ∃ (m2 : Nat), i = .slice A1 m2 cc ∧ m2 ≤ m ∧ m2 ≤ g ∧ ie = .int .i64 (e + ((m - m2 : Nat) : Int)) ∧ wx = wc ∧ ∀ j u, m2 ≤ j → L[j]? = some u → u = 0)
   case atStart => exact ⟨m, rfl, Nat.le_refl _, Nat.le_refl _, by simp, rfl, fun j u hj hu => by rw [List.getElem?_eq_none (by omega)] at hu; cases hu⟩
   case round =>
    obtain ⟨m2, rfl, hm2, hg, rfl, rfl, hz⟩ := hrel
    have HZ := Lib.hid hz
    clear hz
    by_cases hm0 : m2 = 0
    · subst hm0
      obtain ⟨E, hE⟩ : ∃ E, e + ((m - 0 : Nat) : Int) = E := ⟨_, rfl⟩
      rw [hE]
      have HEE := Lib.hid hE
      clear hE
      go_wp2_with fail
      go_meet
      refine ⟨0, rfl, by omega, by rw [HEE.out], rfl, ?_⟩
      refine Dc.trail_is (by rw [HLM.out]; omega) (fun j u hj hu => HZ.out j u (by rw [HLM.out] at hj; omega) hu) (Or.inl (by rw [HLM.out]; omega))
    · obtain ⟨q, rfl⟩ : ∃ q, m2 = q + 1 := ⟨m2 - 1, by omega⟩
      obtain ⟨b, off, u, rfl, hbB, hu, hcell⟩ := hrL.at_ (k := q) (by omega)
      obtain ⟨x, hx, rfl⟩ := u8_at hu
      have hin : (0 : Int) < ((q + 1 : Nat) : Int) := by omega
      obtain ⟨E, hE⟩ : ∃ E, e + ((m - (q + 1) : Nat) : Int) = E := ⟨_, rfl⟩
      rw [hE]
      have hE1 : E + 1 = e + ((m - q : Nat) : Int) := by omega
      have hEb : -9223372036854775808 ≤ E + 1 ∧ E + 1 ≤ 9223372036854775807 := by have := HE.out; omega
      have HEE := Lib.hid hE
      have HE1 := Lib.hid hE1
      have HX := Lib.hid hx
      clear hE hE1 hx hu
      by_cases hx0 : x = 0
      · have h0 : ((x : Int) == 0) = true := by subst hx0; rfl
        obtain ⟨g, rfl⟩ : ∃ g, gk = g + 1 := ⟨gk - 1, by omega⟩
        have HX0 := Lib.hid hx0
        clear hx0
        go_wp2_with fail
        go_roundg g
        case measure => omega
        case rel =>
         refine ⟨q, by go_num, by omega, by omega, by rw [← HE1.out], rfl, fun j u hj hu => ?_⟩
         by_cases hjq : j = q
         · subst hjq
           have := HX.out
           rw [hu] at this
           rw [Option.some.inj this]; exact HX0.out
         · exact HZ.out j u (by omega) hu
      · have h0 : ((x : Int) == 0) = false := by simp; omega
        have HX0 := Lib.hid hx0
        clear hx0
        go_wp2_with fail
        go_meet
        refine ⟨q + 1, rfl, hm2, by rw [HEE.out], rfl, ?_⟩
        refine Dc.trail_is (by rw [HLM.out]; omega) (fun j u hj hu => HZ.out j u (by rw [HLM.out] at hj; omega) hu) (Or.inr ⟨x, ?_, HX0.out⟩)
        rw [show L.length - (m - (q + 1)) - 1 = q by rw [HLM.out]; omega]; exact HX.out
  case rest =>
   obtain ⟨m2, rfl, hm2, rfl, rfl, ht⟩ := hcut
   obtain ⟨E, hE⟩ : ∃ E, e + ((m - m2 : Nat) : Int) = E := ⟨_, rfl⟩
   rw [hE]
   have HT := Lib.hid ht
   have HEE := Lib.hid hE
   have x0 := at_block hX1 0 _ rfl
   have x1 := at_block hX1 1 _ rfl
   have x2 := at_block hX1 2 _ rfl
   have f0 := free_block hX1 0
   have f1 := free_block hX1 1
   have f2 := free_block hX1 2
   have hXlt := lt_of_block hX1
   have HX1 := Lib.hid hX1
   have HXX := Lib.hid hX
   clear ht hE hX1 hX
   by_cases hm0 : m2 = 0
   · subst hm0
     have hLn : L = [] := by
      have h1 := HT.out
      cases hL : L with
      | nil => rfl
      | cons y L' =>
        exfalso
        have h2 := Dc.lead_nonzero (l := l) (by rw [HL.out, hL]; simp)
        rw [HL.out] at h2
        apply h2
        apply List.length_eq_zero_iff.1
        rw [Dc.core_len]; omega
     have HLn := Lib.hid hLn
     clear hLn
     go_wp2_with fail
     refine bodyPost_ret (v := .agg #[.bool false, .slice none 0 0, .int .i64 0]) (by simp [results, Tryz.results107, go_sem, x0, x1, x2]) rfl ?_
     have hnorm : Dc.norm neg l e = ⟨false, [], 0⟩ := by rw [Dc.norm, HL.out, HLn.out, if_pos rfl]
     refine ⟨_, rfl, ⟨none, by rw [hnorm]; rfl, by rw [hnorm]; exact Reads.none_⟩, ?_⟩
     rw [HXX.out]
     exact ((hb1.setCell (p := ⟨X, 0, none⟩) (Nat.le_refl _) _).setCell (p := ⟨X, 1, none⟩) (Nat.le_refl _) _).setCell (p := ⟨X, 2, none⟩) (Nat.le_refl _) _
   · have hne0 : ((m2 : Int) == 0) = false := by simp; omega
     obtain ⟨Z, hZ⟩ : ∃ Z, u8s (List.replicate m2 0) = Z := ⟨_, rfl⟩
     have hmk2 := fun W => hmk m2 (by omega) W
     rw [hZ] at hmk2
     have hZl : Z.length = m2 := by rw [← hZ, u8s_len, List.length_replicate]
     obtain ⟨C, hC⟩ : ∃ C, Dc.core L = C := ⟨_, rfl⟩
     have hCl : C.length = m2 := by rw [← hC, Dc.core_len, HLM.out, HT.out]; omega
     obtain ⟨CS, hCS⟩ : ∃ CS, u8s C = CS := ⟨_, rfl⟩
     have hCSl : CS.length = m2 := by rw [← hCS, u8s_len, hCl]
     have hrC : Reads wc wc.heap.size A1 m2 CS := by
      have h := hrL.take m2 hm2
      have e : (u8s L).take m2 = CS := by rw [← hCS, ← hC, Dc.core, HLM.out, HT.out, u8s, u8s, List.map_take, show m - (m - m2) = m2 by omega]
      rwa [e] at h
     have hone : ∀ v ∈ CS, v.oneCell' = true := by rw [← hCS]; exact u8s_one _
     have hsp : splice Z 0 CS = CS := splice_all Z CS (by rw [hCSl, hZl])
     have HCL := Lib.hid hCSl
     have HCC := Lib.hid hC
     have HCS := Lib.hid hCS
     have HCl := Lib.hid hCl
     have HSP := Lib.hid hsp
     have HZL := Lib.hid hZl
     have HM0 := Lib.hid hm0
     obtain ⟨G, hG⟩ : ∃ G, wc.heap.size = G := ⟨_, rfl⟩
     have HGG := Lib.hid hG
     have hm2w : m2 ≤ 1073741824 := by omega
     clear hZ hC hCS hCl hCSl hsp hZl hm0 hmk hG
     go_wp2_with (with_reducible refine wpList_copy_splice rfl (.tmp 45) (.tmp 46) 31 31 rfl 5 Tryz.underlying31 size5 (some ⟨wc.heap.size, 0, none⟩) A1 m2 m2 m2 cc rfl rfl wc.heap.size 0 Z 5 (heap_alloc_new wc _) CS (by rw [HCL.out]; exact (Nat.min_self m2).symm) (by intro hp; refine ⟨rfl, ?_⟩; obtain ⟨ad, e1, e2, e3⟩ := hrC.src (by rw [← HCL.out]; exact hp); exact ⟨ad, e1, fun j v hv => (World.cell?_alloc_lt wc _ _ (by rw [block_of_add]; exact e2)).trans (e3 j v hv)⟩) (by rw [HCL.out, HZL.out]; omega) hone wc.heap.size (wc.alloc (.cells Z.toArray 5)) (Below.refl _ _) (Nat.le_refl _) ?_; intro w5 hX5 hb5; have hq := ((hb5.block X hXlt).trans (Below.heap_alloc wc _ _ hXlt)).trans HX1.out; clear x0 x1 x2 f0 f1 f2; have x0 := at_block hq 0 _ rfl; have x1 := at_block hq 1 _ rfl; have x2 := at_block hq 2 _ rfl; have f0 := free_block hq 0; have f1 := free_block hq 1; have f2 := free_block hq 2; have HQ := Lib.hid hq; clear hq)
     refine bodyPost_ret (v := .agg #[.bool neg, .slice (some ⟨wc.heap.size, 0, none⟩) m2 m2, .int .i64 E]) (by simp [results, Tryz.results107, go_sem, x0, x1, x2]) rfl ?_
     have hLne : L ≠ [] := by
      intro h
      have h1 := HLM.out
      rw [h] at h1
      have h2 := HM0.out
      simp at h1; omega
     have hnorm : Dc.norm neg l e = ⟨neg, C, E⟩ := by
      rw [Dc.norm, HL.out, if_neg hLne, HT.out, HEE.out, HCC.out]
     have hX5' := hX5.out
     rw [HSP.out] at hX5'
     have hX6 : ((((w5.setCell ⟨X, 0, none⟩ (.bool neg)).setCell ⟨X, 1, none⟩ (.slice (some ⟨wc.heap.size, 0, none⟩) m2 m2)).setCell ⟨X, 2, none⟩ (.int .i64 E))).heap[wc.heap.size]? = some (.cells CS.toArray 5 (0, 0)) := by
      rw [Below.heap_setCell _ _ _ _ (show wc.heap.size ≠ X by omega), Below.heap_setCell _ _ _ _ (show wc.heap.size ≠ X by omega), Below.heap_setCell _ _ _ _ (show wc.heap.size ≠ X by omega)]
      exact hX5'
     have hrd := Reads.of_block hX6
     rw [HCL.out, ← HCS.out] at hrd
     refine ⟨_, rfl, ⟨some ⟨wc.heap.size, 0, none⟩, by rw [hnorm, HCl.out], by rw [hnorm, HCl.out]; exact hrd⟩, ?_⟩
     rw [HXX.out]
     have hb6 : Below X w w5 := hb1.trans (((Below.refl _ _).alloc (by omega) _).trans (hb5.mono (by omega)))
     exact ((hb6.setCell (p := ⟨X, 0, none⟩) (Nat.le_refl _) _).setCell (p := ⟨X, 1, none⟩) (Nat.le_refl _) _).setCell (p := ⟨X, 2, none⟩) (Nat.le_refl _) _
theorem sign_any (g : Bool) (A : Option Addr) (n c : Nat) (e : Int) (w : World) : Calls Tryz.prog 173 #[.agg #[.bool g, .slice A n c, .int .i64 e]] w fun x w' => x = .returned (.string ⟨(Dc.sgnB g).toArray⟩) ∧ Below w.heap.size w w' := by
 cases g with
 | true =>
   go_enter Tryz.func173, Tryz.ntmps173
   go_wp2
   go_ret
   exact ⟨rfl, (Below.refl _ _).alloc (Nat.le_refl _) _⟩
 | false =>
   go_enter Tryz.func173, Tryz.ntmps173
   go_wp2
   go_ret
   exact ⟨rfl, (Below.refl _ _).alloc (Nat.le_refl _) _⟩
def limN (n : Nat) (e : Int) : Nat := if 400 < n then 6 else if e < -2000 ∨ 2000 < e then 2 else 0
theorem limN_eq (x : Dc.D) : limN x.c.length x.e = Dc.limit x := rfl
theorem limit_any (g : Bool) (A : Option Addr) (n c : Nat) (e : Int) (w : World) : Calls Tryz.prog 109 #[.agg #[.bool g, .slice A n c, .int .i64 e]] w fun x w' => x = .returned (.int .i64 (limN n e : Int)) ∧ Below w.heap.size w w' := by
 by_cases h1 : 400 < n
 · rw [limN, if_pos h1]
   have hi : (400 : Int) < n := by omega
   go_enter Tryz.func109, Tryz.ntmps109
   go_wp2
   go_ret
   exact ⟨rfl, (Below.refl _ _).alloc (Nat.le_refl _) _⟩
 · rw [limN, if_neg h1]
   have hi : ¬ (400 : Int) < n := by omega
   by_cases h2 : e < -2000
   · rw [if_pos (Or.inl h2)]
     go_enter Tryz.func109, Tryz.ntmps109
     go_wp2
     go_ret
     exact ⟨rfl, (Below.refl _ _).alloc (Nat.le_refl _) _⟩
   · by_cases h3 : 2000 < e
     · rw [if_pos (Or.inr h3)]
       go_enter Tryz.func109, Tryz.ntmps109
       go_wp2
       go_ret
       exact ⟨rfl, (Below.refl _ _).alloc (Nat.le_refl _) _⟩
     · rw [if_neg (by omega)]
       go_enter Tryz.func109, Tryz.ntmps109
       go_wp2
       go_ret
       exact ⟨rfl, (Below.refl _ _).alloc (Nat.le_refl _) _⟩
theorem digits_any (g : Bool) (A : Option Addr) (n : Nat) (l : List Nat) (e : Int) (w : World) (hr : Reads w w.heap.size A n (u8s l)) (hd : Dc.Digs l) (hn : n ≤ 1073741824) :
 Calls Tryz.prog 174 #[.agg #[.bool g, .slice A n n, .int .i64 e]] w fun x w' => x = .returned (.string ⟨(Dc.digB l).toArray⟩) ∧ Below w.heap.size w w' := by
 have hln : l.length = n := by have := hr.1; rwa [u8s_len] at this
 have hmk := fun W => make_bytes n (by omega) W
 obtain ⟨V, hV⟩ : ∃ V, u8s (l.map (48 + ·)) = V := ⟨_, rfl⟩
 have hVl : V.length = n := by rw [← hV, u8s_len, List.length_map, hln]
 have e0 : u8s (List.replicate n 0) = fillL V (.int .u8 0) 0 n := by rw [fillL_zero]; simp [u8s]
 rw [e0] at hmk
 have HV := Lib.hid hV
 have HVL := Lib.hid hVl
 have HLN := Lib.hid hln
 clear hV hVl hln e0
 go_enter Tryz.func174, Tryz.ntmps174
 go_wp2
 have hb0 : Below w.heap.size w ((w.alloc (.cells #[.bool g, .slice A n n, .int .i64 e] 104)).alloc (.cells (fillL V (.int .u8 0) 0 n).toArray 5)) := ((Below.refl _ _).alloc (Nat.le_refl _) _).alloc (by simp) _
 have hG0 : ((w.alloc (.cells #[.bool g, .slice A n n, .int .i64 e] 104)).alloc (.cells (fillL V (.int .u8 0) 0 n).toArray 5)).heap[w.heap.size + 1]? = some (.cells (fillL V (.int .u8 0) 0 n).toArray 5 (0, 0)) := by
  have := heap_alloc_new (w.alloc (.cells #[.bool g, .slice A n n, .int .i64 e] 104)) (.cells (fillL V (.int .u8 0) 0 n).toArray 5)
  simpa using this
 go_loopg [13] n (fun f i wx => ∃ k : Nat, i = .int .i64 k ∧ k ≤ n ∧ n ≤ k + f ∧ Below w.heap.size w wx ∧ wx.heap[w.heap.size + 1]? = some (.cells (fillL V (.int .u8 0) k n).toArray 5 (0, 0)))
 case atStart => exact ⟨0, rfl, by omega, by omega, hb0, hG0⟩
 case round =>
  obtain ⟨k, rfl, hk, hf, hbx, hGx⟩ := hrel
  by_cases hlt : k < n
  · obtain ⟨f, rfl⟩ : ∃ f, gk = f + 1 := ⟨gk - 1, by omega⟩
    have hin : (k : Int) < (n : Int) := by omega
    have hk0 : (0 : Int) ≤ k := by omega
    obtain ⟨b, off, u, hA, hbB, hu, hcell⟩ := (hr.below hbx).at_ (k := k) hlt
    obtain ⟨x, hx, rfl⟩ := u8_at hu
    have hx10 : x < 10 := hd x (List.mem_of_getElem? hx)
    have hwr : IntKind.u8.wrap (48 + (x : Int)) = 48 + (x : Int) := by rw [IntKind.wrap_u8]; omega
    have hVk : V[k]? = some (.int .u8 (48 + (x : Int))) := by
     rw [← HV.out]
     have : (l.map (48 + ·))[k]? = some (48 + x) := by simp [hx]
     have := u8s_get this
     simpa using this
    obtain ⟨uu, huu⟩ : ∃ uu, (fillL V (.int .u8 0) k n)[k]? = some uu := ⟨_, List.getElem?_eq_getElem (by rw [fillL_len HVL.out (by omega)]; exact hlt)⟩
    have q0 := at_block hGx k uu (by simpa using huu)
    have f0 := free_block hGx k
    have HGX := Lib.hid hGx
    have HVK := Lib.hid hVk
    have HA := Lib.hid hA
    clear hGx hVk huu hx hu
    subst hA
    go_wp2
    go_roundg f
    case measure => omega
    case rel =>
     refine ⟨k + 1, by go_num, by omega, by omega, hbx.setCell (p := ⟨w.heap.size + 1, k, none⟩) (by show w.heap.size ≤ w.heap.size + 1; omega) _, ?_⟩
     rw [← fillL_set HVL.out hlt HVK.out]
     exact block_set HGX.out k _
  · obtain rfl : k = n := by omega
    have hin : ¬ (k : Int) < (k : Int) := by omega
    rw [fillL_all HVL.out, ← HV.out] at hGx
    have hR := Reads.of_block hGx
    have hl2 : (u8s (l.map (48 + ·))).length = k := by rw [HV.out, HVL.out]
    rw [hl2] at hR
    have hcv := conv_bytes (c := k) hR (fun _ => ⟨_, _, rfl⟩)
    rw [List.map_map] at hcv
    have hfun : l.map (UInt8.ofNat ∘ (48 + ·)) = Dc.digB l := rfl
    rw [hfun] at hcv
    clear hR hGx hl2
    go_wp2
    go_ret
    exact ⟨rfl, hbx⟩
theorem box_num (g : Bool) (A : Option Addr) (n c : Nat) (e : Int) (w : World) : ∃ (w2 : World) (X : Nat), w.alloc (.cells #[.bool g, .slice A n c, .int .i64 e] 104) = w2 ∧ w.heap.size = X ∧ Below w.heap.size w w2 ∧ X < w2.heap.size ∧
 ∀ W, Below w2.heap.size w2 W → W.cell? ⟨X, 0, none⟩ = some (.bool g) ∧ W.cell? ⟨X, 1, none⟩ = some (.slice A n c) ∧ W.cell? ⟨X, 2, none⟩ = some (.int .i64 e) ∧ Below w2.heap.size w2 W := by
 refine ⟨_, _, rfl, rfl, (Below.refl _ _).alloc (Nat.le_refl _) _, by simp, fun W hW => ?_⟩
 have h1 := (hW.block w.heap.size (by simp)).trans (heap_alloc_new w _)
 exact ⟨at_block h1 0 _ rfl, at_block h1 1 _ rfl, at_block h1 2 _ rfl, hW⟩
theorem n3 {A B C : Prop} {a W : World} (h : A ∧ B ∧ C ∧ Below a.heap.size a W) : Below a.heap.size a W := h.2.2.2
theorem n3_trans {A B C : Prop} {a W W' : World} (h : A ∧ B ∧ C ∧ Below a.heap.size a W) (hb : Below W.heap.size W W') : Below a.heap.size a W' := h.2.2.2.trans (hb.mono h.2.2.2.size)
theorem sgn_len (b : Bool) : (Dc.sgnB b).length ≤ 1 := by cases b <;> decide
theorem coef_any (g : Bool) (A : Option Addr) (n : Nat) (l : List Nat) (e : Int) (w : World) (hr : Reads w w.heap.size A n (u8s l)) (hd : Dc.Digs l) (hn : n ≤ 1073741000) :
 Calls Tryz.prog 143 #[.agg #[.bool g, .slice A n n, .int .i64 e]] w fun x w' => x = .returned (.string ⟨(Dc.coefB ⟨g, l, e⟩).toArray⟩) ∧ Below w.heap.size w w' := by
 have hln : l.length = n := by have := hr.1; rwa [u8s_len] at this
 by_cases h0 : n = 0
 · obtain rfl : l = [] := List.length_eq_zero_iff.1 (by omega)
   subst h0
   go_enter Tryz.func143, Tryz.ntmps143
   go_wp2
   go_ret
   exact ⟨rfl, (Below.refl _ _).alloc (Nat.le_refl _) _⟩
 · obtain ⟨S, hS⟩ : ∃ S : ByteArray, ⟨(Dc.sgnB g).toArray⟩ = S := ⟨_, rfl⟩
   obtain ⟨T, hT⟩ : ∃ T : ByteArray, ⟨(Dc.digB l).toArray⟩ = T := ⟨_, rfl⟩
   have hco : (⟨(Dc.coefB ⟨g, l, e⟩).toArray⟩ : ByteArray) = S ++ T := by
    have hne : l ≠ [] := by intro h; subst h; simp at hln; omega
    rw [← hS, ← hT, str_append, Dc.coefB, if_neg hne]
   have hSs : S.size ≤ 1 := by rw [← hS, str_size]; exact sgn_len g
   have hTs : T.size = n := by rw [← hT, str_size, Dc.digB_len, hln]
   rw [hco]
   have SG := Lib.hid (fun W => sign_any g A n n e W)
   have DG := Lib.hid (fun W hW => digits_any g A n l e W hW hd (by omega))
   rw [hS] at SG
   rw [hT] at DG
   have hsum : S.size + T.size ≤ 1073741824 := by omega
   have hadd := fun W => run_string_add_sum (P := Tryz.prog) (w := W) S T (by omega)
   have h0f : ((n : Int) == 0) = false := by simp; omega
   obtain ⟨w2, X, hw2, hX, hb2, hX2, hcells⟩ := box_num g A n n e w
   have hr2 := hr.on hb2
   have HC := Lib.hid hcells
   have HW2 := Lib.hid hw2
   have HXX := Lib.hid hX
   have HR2 := Lib.hid hr2
   have hd2 : Below w2.heap.size w2 w2 := Below.refl _ _
   obtain ⟨q0, q1, q2, _⟩ := hcells w2 hd2
   clear hS hT hco hcells hw2 hX hr hr2 hd hln
   go_enter Tryz.func143, Tryz.ntmps143
   go_wp2_with fail
   rw [HW2.out, HXX.out]
   go_region_held3 (fun W => W.cell? ⟨X, 0, none⟩ = some (.bool g) ∧ W.cell? ⟨X, 1, none⟩ = some (.slice A n n) ∧ W.cell? ⟨X, 2, none⟩ = some (.int .i64 e) ∧ Below w2.heap.size w2 W)
    ((refine HC.out _ ?_; first | assumption | exact (Below.refl _ _).drew))
    (first | (go_at_call 173; refine (SG.out _).mono ?_; rintro x w7 ⟨rfl, hb7⟩; have hb7' := n3_trans (by assumption) hb7) | (go_at_call 174; refine (DG.out _ (HR2.out.on (n3 (by assumption)))).mono ?_; rintro x w7 ⟨rfl, hb7⟩; have hb7' := n3_trans (by assumption) hb7))
   all_goals
    go_wp2_with fail
    go_ret
    exact ⟨rfl, hb2.trans (hb7'.mono hb2.size)⟩
theorem coef_len (x : Dc.D) : (Dc.coefB x).length ≤ x.c.length + 1 := by
 rw [Dc.coefB]
 split
 · simp
 · rw [List.length_append, Dc.digB_len]; have := sgn_len x.neg; omega
theorem dec_len (u k : Nat) (h : u < 10 ^ (k + 1)) : (Lib.decDigits u).length ≤ k + 1 := by
 induction k generalizing u with
 | zero => rw [Lib.decDigits, dif_pos (by simpa using h)]; simp
 | succ k ih =>
   rw [Lib.decDigits]
   split
   · simp
   · rw [List.length_append]
     have := ih (u / 10) (by rw [Nat.pow_succ] at h; omega)
     simp; omega
theorem itoa_len20 (n : Int) (h0 : -4611686018427387904 ≤ n) (h1 : n ≤ 4611686018427387904) : (Lib.itoa n).length ≤ 20 := by
 rw [Lib.itoa]
 split
 · have := dec_len n.natAbs 18 (by omega)
   simp; omega
 · have := dec_len n.toNat 18 (by omega)
   omega
theorem dectext_any (g : Bool) (A : Option Addr) (n : Nat) (l : List Nat) (e : Int) (w : World) (hr : Reads w w.heap.size A n (u8s l)) (hd : Dc.Digs l) (hn : n ≤ 1073741000) (he : -4611686018427387904 ≤ e ∧ e ≤ 4611686018427387904) (hL : Laid w) :
 Calls Tryz.prog 110 #[.agg #[.bool g, .slice A n n, .int .i64 e]] w fun x w' => x = .returned (.string ⟨(Dc.showB ⟨g, l, e⟩).toArray⟩) ∧ Below w.heap.size w w' := by
 have hln : l.length = n := by have := hr.1; rwa [u8s_len] at this
 obtain ⟨C, hC⟩ : ∃ S : ByteArray, ⟨(Dc.coefB ⟨g, l, e⟩).toArray⟩ = S := ⟨_, rfl⟩
 obtain ⟨T, hT⟩ : ∃ T : ByteArray, ⟨(Lib.itoa e).toArray⟩ = T := ⟨_, rfl⟩
 have hsh : (⟨(Dc.showB ⟨g, l, e⟩).toArray⟩ : ByteArray) = C ++ ⟨#[101]⟩ ++ T := by
  rw [← hC, ← hT, show (⟨#[101]⟩ : ByteArray) = ⟨([101] : List UInt8).toArray⟩ from rfl, str_append, str_append, Dc.showB]
  simp
 have hCs : C.size ≤ n + 1 := by rw [← hC, str_size]; have := coef_len ⟨g, l, e⟩; rw [← hln]; exact this
 have hTs : T.size ≤ 20 := by rw [← hT, str_size]; exact itoa_len20 e he.1 he.2
 rw [hsh]
 have CO := Lib.hid (fun W hW => coef_any g A n l e W hW hd hn)
 have IT := Lib.hid (fun W hW => itoa_any e he.1 he.2 W hW)
 rw [hC] at CO
 rw [hT] at IT
 have hadd := fun W => run_string_add_sum (P := Tryz.prog) (w := W) C ⟨#[101]⟩ (by rw [show (ByteArray.mk #[101]).size = 1 from rfl]; omega)
 have hadd2 := fun W => run_string_add_sum (P := Tryz.prog) (w := W) (C ++ ⟨#[101]⟩) T (by rw [ByteArray.size_append, show (ByteArray.mk #[101]).size = 1 from rfl]; omega)
 obtain ⟨w2, X, hw2, hX, hb2, hX2, hcells⟩ := box_num g A n n e w
 have hr2 := hr.on hb2
 have HC := Lib.hid hcells
 have HW2 := Lib.hid hw2
 have HXX := Lib.hid hX
 have HR2 := Lib.hid hr2
 have HL2 := Lib.hid (hL.on hb2)
 have hd2 : Below w2.heap.size w2 w2 := Below.refl _ _
 clear hC hT hsh hcells hw2 hX hr hr2 hd hln hL
 go_enter Tryz.func110, Tryz.ntmps110
 go_wp2_with fail
 rw [HW2.out, HXX.out]
 go_region_held3 (fun W => W.cell? ⟨X, 0, none⟩ = some (.bool g) ∧ W.cell? ⟨X, 1, none⟩ = some (.slice A n n) ∧ W.cell? ⟨X, 2, none⟩ = some (.int .i64 e) ∧ Below w2.heap.size w2 W)
  ((refine HC.out _ ?_; first | assumption | exact (Below.refl _ _).drew))
  (first | (go_at_call 143; refine (CO.out _ (HR2.out.on (n3 (by assumption)))).mono ?_; rintro x w7 ⟨rfl, hb7⟩; have hb7' := n3_trans (by assumption) hb7) | (go_at_call 101; refine (IT.out _ (HL2.out.on (n3 (by assumption)))).mono ?_; rintro x w7 ⟨rfl, hb7⟩; have hb7' := n3_trans (by assumption) hb7))
 all_goals
  go_wp2_with fail
  go_ret
  exact ⟨rfl, hb2.trans (hb7'.mono hb2.size)⟩
theorem byte_ne {d c : UInt8} {n : Int} (hn : (c.toNat : Int) = n) (h : ¬ d = c) : ((d.toNat : Int) == n) = false := by
 subst hn
 simp only [beq_eq_false_iff_ne, ne_eq]
 intro h'
 exact h (UInt8.toNat_inj.1 (by omega))
theorem data_len (s : ByteArray) : s.data.toList.length = s.size := by simp
theorem bytes_any (s : ByteArray) (w : World) (hall : s.data.toList.all Dc.isDig = true) (hs : s.size ≤ 1073741824) :
 Calls Tryz.prog 108 #[.string s] w fun x w' => ∃ G : Nat, x = .returned (.slice (some ⟨G, 0, none⟩) s.size s.size) ∧ Reads w' w'.heap.size (some ⟨G, 0, none⟩) s.size (u8s (Dc.vals s.data.toList)) ∧ Below w.heap.size w w' := by
 obtain ⟨n, hn⟩ : ∃ n, s.size = n := ⟨_, rfl⟩
 have hmk := fun W => make_bytes s.size (by omega) W
 obtain ⟨V, hV⟩ : ∃ V, u8s (Dc.vals s.data.toList) = V := ⟨_, rfl⟩
 have hVl : V.length = s.size := by rw [← hV, u8s_len, Dc.vals, List.length_map, data_len]
 have e0 : u8s (List.replicate s.size 0) = fillL V (.int .u8 0) 0 s.size := by rw [fillL_zero]; simp [u8s]
 rw [e0] at hmk
 have HV := Lib.hid hV
 have HVL := Lib.hid hVl
 clear hV hVl e0 hn
 go_enter Tryz.func108, Tryz.ntmps108
 go_wp2
 have hb0 : Below w.heap.size w (w.alloc (.cells (fillL V (.int .u8 0) 0 s.size).toArray 5)) := (Below.refl _ _).alloc (Nat.le_refl _) _
 have hG0 : (w.alloc (.cells (fillL V (.int .u8 0) 0 s.size).toArray 5)).heap[w.heap.size]? = some (.cells (fillL V (.int .u8 0) 0 s.size).toArray 5 (0, 0)) := heap_alloc_new w _
 go_loopg [10] s.size (fun f i wx => ∃ k : Nat, i = .int .i64 k ∧ k ≤ s.size ∧ s.size ≤ k + f ∧ Below w.heap.size w wx ∧ wx.heap[w.heap.size]? = some (.cells (fillL V (.int .u8 0) k s.size).toArray 5 (0, 0)))
 case atStart => exact ⟨0, rfl, by omega, by omega, hb0, hG0⟩
 case round =>
  obtain ⟨k, rfl, hk, hf, hbx, hGx⟩ := hrel
  by_cases hlt : k < s.size
  · obtain ⟨f, rfl⟩ : ∃ f, gk = f + 1 := ⟨gk - 1, by omega⟩
    have hin : (k : Int) < (s.size : Int) := by omega
    have hk0 : (0 : Int) ≤ k := by omega
    obtain ⟨d, hd⟩ : ∃ d : UInt8, s[k]'hlt = d := ⟨_, rfl⟩
    have hd' := byte_at hlt hd
    have hdig := Dc.isDig_iff.1 (List.all_eq_true.1 hall d (List.mem_of_getElem? hd'))
    have hwr : IntKind.u8.wrap ((d.toNat : Int) - 48) = (d.toNat : Int) - 48 := by rw [IntKind.wrap_u8]; omega
    have hVk : V[k]? = some (.int .u8 ((d.toNat : Int) - 48)) := by
     rw [← HV.out]
     have h1 : (Dc.vals s.data.toList)[k]? = some (d.toNat - 48) := by rw [Dc.vals, List.getElem?_map, hd']; rfl
     have h2 := u8s_get h1
     rw [h2, show ((d.toNat - 48 : Nat) : Int) = (d.toNat : Int) - 48 by omega]
    obtain ⟨uu, huu⟩ : ∃ uu, (fillL V (.int .u8 0) k s.size)[k]? = some uu := ⟨_, List.getElem?_eq_getElem (by rw [fillL_len HVL.out (by omega)]; exact hlt)⟩
    have q0 := at_block hGx k uu (by simpa using huu)
    have f0 := free_block hGx k
    have HGX := Lib.hid hGx
    have HVK := Lib.hid hVk
    clear hGx hVk huu hd' hdig
    go_wp2
    go_roundg f
    case measure => omega
    case rel =>
     refine ⟨k + 1, by go_num, by omega, by omega, hbx.setCell (p := ⟨w.heap.size, k, none⟩) (Nat.le_refl _) _, ?_⟩
     rw [← fillL_set HVL.out hlt HVK.out]
     exact block_set HGX.out k _
  · obtain rfl : k = s.size := by omega
    have hin : ¬ (s.size : Int) < (s.size : Int) := by omega
    rw [fillL_all HVL.out] at hGx
    have hR := Reads.of_block hGx
    rw [HVL.out] at hR
    have HR := Lib.hid hR
    clear hR hGx
    go_wp2
    go_ret
    exact ⟨w.heap.size, rfl, by rw [HV.out]; exact HR.out, hbx⟩
theorem trim_any (A : Option Addr) (n c : Nat) (l : List Nat) (w : World) (hr : Reads w w.heap.size A n (u8s l)) (hc : n ≤ c) (hn : n ≤ 1073741824) : Calls Tryz.prog 160 #[.slice A n c] w fun x w' => (∃ m, x = .returned (.slice A m c)) ∧ w' = w := by
 go_enter Tryz.func160, Tryz.ntmps160
 go_wp2
 go_loopg [0] n (fun f i wx => ∃ m : Nat, i = .slice A m c ∧ m ≤ n ∧ m ≤ f ∧ wx = w)
 case atStart => exact ⟨n, rfl, by omega, by omega, rfl⟩
 case round =>
  obtain ⟨m, rfl, hm, hf, rfl⟩ := hrel
  by_cases h0 : m = 0
  · subst h0
    go_wp2
    go_ret
    exact ⟨⟨0, rfl⟩, rfl⟩
  · obtain ⟨q, rfl⟩ : ∃ q, m = q + 1 := ⟨m - 1, by omega⟩
    obtain ⟨b, off, u, rfl, hbB, hu, hcell⟩ := hr.at_ (k := q) (by omega)
    obtain ⟨x, hx, rfl⟩ := u8_at hu
    have hin : (0 : Int) < ((q + 1 : Nat) : Int) := by omega
    by_cases hx0 : x = 0
    · have hx0f : ((x : Int) == 0) = true := by subst hx0; rfl
      obtain ⟨f, rfl⟩ : ∃ f, gk = f + 1 := ⟨gk - 1, by omega⟩
      have HX := Lib.hid hx
      clear hx0 hx hu
      go_wp2
      go_roundg f
      case measure => omega
      case rel => exact ⟨q, by go_num, by omega, by omega, rfl⟩
    · have hx0f : ((x : Int) == 0) = false := by simp; omega
      have HX := Lib.hid hx
      clear hx0 hx hu
      go_wp2
      go_ret
      exact ⟨⟨q + 1, rfl⟩, rfl⟩
theorem data_extract (s : ByteArray) (i j : Nat) : (s.extract i j).data.toList = (s.data.toList.drop i).take (j - i) := by
 rw [Lib.extract_data]
theorem data_from (s : ByteArray) (i : Nat) : (s.extract i s.size).data.toList = s.data.toList.drop i := by
 rw [data_extract, List.take_of_length_le (by rw [List.length_drop, data_len]; omega)]
theorem data_to (s : ByteArray) (j : Nat) : (s.extract 0 j).data.toList = s.data.toList.take j := by
 rw [data_extract, List.drop_zero, Nat.sub_zero]
def badInt (s T : ByteArray) : Bool := decide (T.size = 0) || decide (400 < T.size) || (decide (T.data.toList.head? = some 48) && decide (1 < s.size))
theorem intB_is {s T : ByteArray} (h : T.data.toList = Dc.intTail s.data.toList) : Dc.intB s.data.toList = (!badInt s T && T.data.toList.all Dc.isDig) := by
 rw [Dc.intB, ← h, badInt, data_len, data_len]
 have e1 : decide (T.size ≤ 400) = !decide (400 < T.size) := by
  by_cases hh : T.size ≤ 400
  · rw [decide_eq_true hh, decide_eq_false (by omega)]; rfl
  · rw [decide_eq_false hh, decide_eq_true (by omega)]; rfl
 have e2 : (T.size == 0) = decide (T.size = 0) := by by_cases hh : T.size = 0 <;> simp [hh]
 have e3 : (T.data.toList.head? == some 48) = decide (T.data.toList.head? = some 48) := by by_cases hh : T.data.toList.head? = some 48 <;> simp [hh]
 rw [e1, e2, e3]
 cases decide (T.size = 0) <;> cases decide (400 < T.size) <;> cases decide (T.data.toList.head? = some 48) <;> cases decide (1 < s.size) <;> rfl
theorem head_at {s : ByteArray} {d : UInt8} (h : s.data.toList[0]? = some d) : s.data.toList.head? = some d := by rw [List.head?_eq_getElem?]; exact h
def IntEnd (x : Ending) (b : Bool) : Prop := ∃ g A n c, x = .returned (.tuple #[.agg #[.bool g, .slice A n c], .bool b])
theorem intread_any (s : ByteArray) (w : World) (hs : s.size ≤ 1073741824) : Calls Tryz.prog 126 #[.string s] w fun x w' => IntEnd x (Dc.intB s.data.toList) ∧ Below w.heap.size w w' := by
 have hmk := fun n h W => make_bytes n h W
 obtain ⟨X, hX⟩ : ∃ X, w.heap.size = X := ⟨_, rfl⟩
 obtain ⟨w1, hw1⟩ : ∃ w1 : World, (w.alloc (.cells #[.bool false, .slice none 0 0] 163)).alloc (.cells #[.bool false, .slice none 0 0] 163) = w1 := ⟨_, rfl⟩
 have hb1 : Below X w w1 := by rw [← hw1, ← hX]; exact ((Below.refl _ _).alloc (Nat.le_refl _) _).alloc (by simp) _
 have hX1 : w1.heap[X]? = some (.cells #[.bool false, .slice none 0 0] 163 (0, 0)) := by
  rw [← hw1, ← hX]; exact (Below.heap_alloc _ _ _ (by simp)).trans (heap_alloc_new w _)
 have hY1 : w1.heap[X + 1]? = some (.cells #[.bool false, .slice none 0 0] 163 (0, 0)) := by
  rw [← hw1, ← hX]
  have := heap_alloc_new (w.alloc (.cells #[.bool false, .slice none 0 0] 163)) (.cells #[.bool false, .slice none 0 0] 163)
  simpa using this
 have hsz1 : w1.heap.size = X + 2 := by rw [← hw1, ← hX]; simp
 obtain ⟨B, hB⟩ : ∃ B : Bool, (decide (1 < s.size) && decide (s.data.toList.head? = some 45)) = B := ⟨_, rfl⟩
 have HB := Lib.hid hB
 have HX := Lib.hid hX
 have HW1 := Lib.hid hw1
 have HX1 := Lib.hid hX1
 have HY1 := Lib.hid hY1
 clear hB hw1 hX1 hY1
 go_enter Tryz.func126, Tryz.ntmps126
 go_upto_region 3 with fail
 rw [HW1.out]
 go_cut [16] (fun c wx => c = .bool B ∧ wx = w1)
 case first =>
  by_cases h1 : 1 < s.size
  · have h1i : (1 : Int) < (s.size : Int) := by omega
    obtain ⟨d, hd⟩ : ∃ d : UInt8, s[0]'(by omega) = d := ⟨_, rfl⟩
    have HD := Lib.hid (byte_at (by omega) hd)
    by_cases h45 : d = 45
    · have h45f : ((d.toNat : Int) == 45) = true := by subst h45; rfl
      have H45 := Lib.hid h45
      clear h45
      go_wp2_with fail
      go_meet
      exact ⟨by rw [← HB.out, head_at HD.out, H45.out]; simp [h1], rfl⟩
    · have h45f : ((d.toNat : Int) == 45) = false := byte_ne (c := 45) rfl h45
      have H45 := Lib.hid h45
      clear h45
      go_wp2_with fail
      go_meet
      exact ⟨by rw [← HB.out, head_at HD.out]; simp [H45.out], rfl⟩
  · have h1i : ¬ (1 : Int) < (s.size : Int) := by omega
    go_wp2_with fail
    go_meet
    exact ⟨by rw [← HB.out]; simp [h1], rfl⟩
 case rest =>
  obtain ⟨rfl, hwc⟩ := hcut
  subst hwc
  go_upto_if 16 with fail
  go_cut [5] (fun s5 wx => ∃ (T : ByteArray) (g : Bool), s5 = .string T ∧ T.data.toList = Dc.intTail s.data.toList ∧ T.size ≤ s.size ∧ Below X w wx ∧ wx.heap.size = X + 2 ∧ wx.heap[X]? = some (.cells #[.bool false, .slice none 0 0] 163 (0, 0)) ∧ wx.heap[X + 1]? = some (.cells #[.bool g, .slice none 0 0] 163 (0, 0)))
  case first =>
   cases hBB : B with
   | true =>
     have hb := HB.out
     rw [hBB, Bool.and_eq_true] at hb
     have h1 : 1 < s.size := by simpa using hb.1
     have h45 : s.data.toList.head? = some 45 := by simpa using hb.2
     have h1i : (1 : Int) ≤ (s.size : Int) := by omega
     have y0 := at_block HY1.out 0 _ rfl
     have f0 := free_block HY1.out 0
     have H45 := Lib.hid h45
     clear hb h45 hBB
     go_wp2_with fail
     go_meet
     refine ⟨s.extract 1 s.size, true, rfl, ?_, by rw [ByteArray.size_extract]; omega, hb1.setCell (p := ⟨X + 1, 0, none⟩) (by show X ≤ X + 1; omega) _, by simp [World.setCell]; omega, ?_, ?_⟩
     · rw [data_from, Dc.intTail, if_pos ⟨by rw [data_len]; exact h1, H45.out⟩]
     · rw [Below.heap_setCell _ _ _ _ (show X ≠ X + 1 by omega)]; exact HX1.out
     · exact block_set HY1.out 0 _
   | false =>
     have hb := HB.out
     rw [hBB] at hb
     have HBF := Lib.hid hb
     clear hb hBB
     go_wp2_with fail
     go_meet
     refine ⟨s, false, rfl, ?_, Nat.le_refl _, hb1, hsz1, HX1.out, HY1.out⟩
     rw [Dc.intTail, if_neg]
     intro h
     have := HBF.out
     rw [data_len] at h
     simp [h.1, h.2] at this
  case rest =>
   obtain ⟨T, g, rfl, hT, hTs, hbc, hszc, hXc, hYc⟩ := hcut
   have hib := intB_is hT
   obtain ⟨bad, hbad⟩ : ∃ b, badInt s T = b := ⟨_, rfl⟩
   rw [hbad] at hib
   have HIB := Lib.hid hib
   have HBD := Lib.hid hbad
   have HXC := Lib.hid hXc
   have HYC := Lib.hid hYc
   clear hib hbad hXc hYc hT
   go_upto_region 6 with fail
   go_cut [37] (fun c wx => c = .bool bad ∧ wx = wc)
   case first =>
    by_cases h0 : T.size = 0
    · have h0f : ((T.size : Int) == 0) = true := by rw [beq_iff_eq]; omega
      have hbt : bad = true := by rw [← HBD.out, badInt]; simp [h0]
      have HBT := Lib.hid hbt
      clear hbt
      go_wp2_with fail
      go_meet
      exact ⟨by rw [HBT.out], rfl⟩
    · have h0f : ((T.size : Int) == 0) = false := beq_eq_false_iff_ne.2 (by omega)
      by_cases h4 : 400 < T.size
      · have h4i : (400 : Int) < (T.size : Int) := by omega
        have hbt : bad = true := by rw [← HBD.out, badInt]; simp [h4]
        have HBT := Lib.hid hbt
        clear hbt
        go_wp2_with fail
        go_meet
        exact ⟨by rw [HBT.out], rfl⟩
      · have h4i : ¬ (400 : Int) < (T.size : Int) := by omega
        have hpos : (0 : Int) < (T.size : Int) := by omega
        obtain ⟨d, hd⟩ : ∃ d : UInt8, T[0]'(by omega) = d := ⟨_, rfl⟩
        have HD := Lib.hid (byte_at (by omega) hd)
        by_cases h48 : d = 48
        · have h48f : ((d.toNat : Int) == 48) = true := by subst h48; rfl
          by_cases h1 : 1 < s.size
          · have h1i : (1 : Int) < (s.size : Int) := by omega
            have hbt : bad = true := by rw [← HBD.out, badInt, head_at HD.out, h48]; simp [h1]
            have HBT := Lib.hid hbt
            clear hbt h48
            go_wp2_with fail
            go_meet
            exact ⟨by rw [HBT.out], rfl⟩
          · have h1i : ¬ (1 : Int) < (s.size : Int) := by omega
            have hbt : bad = false := by rw [← HBD.out, badInt]; simp [h0, h1, h4]
            have HBT := Lib.hid hbt
            clear hbt h48
            go_wp2_with fail
            go_meet
            exact ⟨by rw [HBT.out], rfl⟩
        · have h48f : ((d.toNat : Int) == 48) = false := byte_ne (c := 48) rfl h48
          have hbt : bad = false := by rw [← HBD.out, badInt, head_at HD.out]; simp [h0, h48, h4]
          have HBT := Lib.hid hbt
          clear hbt h48
          go_wp2_with fail
          go_meet
          exact ⟨by rw [HBT.out], rfl⟩
   case rest =>
    obtain ⟨rfl, hwc⟩ := hcut
    subst hwc
    have x0 := at_block HXC.out 0 _ rfl
    have x1 := at_block HXC.out 1 _ rfl
    have fx0 := free_block HXC.out 0
    have fx1 := free_block HXC.out 1
    cases hbb : bad with
    | true =>
      have hfin := HIB.out
      rw [hbb] at hfin
      have HF := Lib.hid hfin
      clear hfin hbb
      go_wp2_with fail
      refine bodyPost_ret (v := .tuple #[.agg #[.bool false, .slice none 0 0], .bool false]) (by simp [results, Tryz.results126, go_sem, x0, x1]) rfl ?_
      refine ⟨⟨false, none, 0, 0, by rw [HF.out]; rfl⟩, ?_⟩
      try rw [HX.out]
      exact (hbc.setCell (p := ⟨X, 0, none⟩) (Nat.le_refl _) _).setCell (p := ⟨X, 1, none⟩) (Nat.le_refl _) _
    | false =>
      have hfin := HIB.out
      rw [hbb] at hfin
      have HF := Lib.hid hfin
      have y1 := at_block HYC.out 1 _ rfl
      have fy1 := free_block HYC.out 1
      have hmk2 := fun W => hmk T.size (by omega) W
      clear hfin hbb
      go_wp2_with fail
      have hbs : Below X w ((wc.setCell ⟨X + 1, 1, none⟩ (.slice (some ⟨X + 2, 0, none⟩) T.size T.size)).alloc (.cells (u8s (List.replicate T.size 0)).toArray 5)) :=
       (hbc.setCell (p := ⟨X + 1, 1, none⟩) (by show X ≤ X + 1; omega) _).alloc (by simp [World.setCell]; omega) _
      have hss : (wc.setCell ⟨X + 1, 1, none⟩ (.slice (some ⟨X + 2, 0, none⟩) T.size T.size)).heap.size = X + 2 := by simp [World.setCell]; exact hszc
      go_loopg [45] T.size (fun f i wx => ∃ (k : Nat) (lc : List Nat), i = .int .i64 k ∧ k ≤ T.size ∧ T.size ≤ k + f ∧ lc.length = T.size ∧ Below X w wx ∧ wx.heap[X]? = some (.cells #[.bool false, .slice none 0 0] 163 (0, 0)) ∧
       wx.heap[X + 1]? = some (.cells #[.bool g, .slice (some ⟨X + 2, 0, none⟩) T.size T.size] 163 (0, 0)) ∧ wx.heap[X + 2]? = some (.cells (u8s lc).toArray 5 (0, 0)) ∧ (T.data.toList.take k).all Dc.isDig = true)
      case atStart =>
       refine ⟨0, List.replicate T.size 0, rfl, by omega, by omega, by simp, hbs, ?_, ?_, ?_, by simp⟩
       · rw [Below.heap_alloc _ _ _ (by rw [hss]; omega), Below.heap_setCell _ _ _ _ (show X ≠ X + 1 by omega)]; exact HXC.out
       · rw [Below.heap_alloc _ _ _ (by rw [hss]; omega)]; exact block_set HYC.out 1 _
       · have := heap_alloc_new (wc.setCell ⟨X + 1, 1, none⟩ (.slice (some ⟨X + 2, 0, none⟩) T.size T.size)) (.cells (u8s (List.replicate T.size 0)).toArray 5)
         rw [hss] at this
         exact this
      case round =>
       obtain ⟨k, lc, rfl, hk, hf, hlc, hbx, hXx, hYx, hZx, hall⟩ := hrel
       have HXx := Lib.hid hXx
       have HYx := Lib.hid hYx
       have HZx := Lib.hid hZx
       have HAL := Lib.hid hall
       have hk0 : (0 : Int) ≤ k := by omega
       clear x0 x1 fx0 fx1 y1 fy1
       have x0 := at_block hXx 0 _ rfl
       have x1 := at_block hXx 1 _ rfl
       have fx0 := free_block hXx 0
       have fx1 := free_block hXx 1
       have y0 := at_block hYx 0 _ rfl
       have y1 := at_block hYx 1 _ rfl
       have fy1 := free_block hYx 1
       clear hXx hYx hall
       by_cases hlt : k < T.size
       · have hin : (k : Int) < (T.size : Int) := by omega
         obtain ⟨f, rfl⟩ : ∃ f, gk = f + 1 := ⟨gk - 1, by omega⟩
         obtain ⟨d, hd⟩ : ∃ d : UInt8, T[k]'hlt = d := ⟨_, rfl⟩
         have HD := Lib.hid (byte_at hlt hd)
         have hbadret : Dc.isDig d = false → Dc.intB s.data.toList = false := by
          intro h
          rw [HF.out]
          have : T.data.toList.all Dc.isDig = false := by
           rw [← Bool.not_eq_true, List.all_eq_true]
           intro h2
           have := h2 d (List.mem_of_getElem? HD.out)
           rw [h] at this; cases this
          rw [this]; rfl
         have HBR := Lib.hid hbadret
         clear hbadret
         by_cases h1 : d.toNat < 48
         · have h1i : (d.toNat : Int) < 48 := by omega
           go_wp2_with fail
           refine bodyPost_ret (v := .tuple #[.agg #[.bool false, .slice none 0 0], .bool false]) (by simp [results, Tryz.results126, go_sem, x0, x1]) rfl ?_
           refine ⟨⟨false, none, 0, 0, by rw [HBR.out (by rw [← Bool.not_eq_true, Dc.isDig_iff]; omega)]⟩, ?_⟩
           try rw [HX.out]
           exact (hbx.setCell (p := ⟨X, 0, none⟩) (Nat.le_refl _) _).setCell (p := ⟨X, 1, none⟩) (Nat.le_refl _) _
         · have h1i : ¬ (d.toNat : Int) < 48 := by omega
           by_cases h2 : 57 < d.toNat
           · have h2i : (57 : Int) < (d.toNat : Int) := by omega
             go_wp2_with fail
             refine bodyPost_ret (v := .tuple #[.agg #[.bool false, .slice none 0 0], .bool false]) (by simp [results, Tryz.results126, go_sem, x0, x1]) rfl ?_
             refine ⟨⟨false, none, 0, 0, by rw [HBR.out (by rw [← Bool.not_eq_true, Dc.isDig_iff]; omega)]⟩, ?_⟩
             try rw [HX.out]
             exact (hbx.setCell (p := ⟨X, 0, none⟩) (Nat.le_refl _) _).setCell (p := ⟨X, 1, none⟩) (Nat.le_refl _) _
           · have h2i : ¬ (57 : Int) < (d.toNat : Int) := by omega
             obtain ⟨q, hq⟩ : ∃ q, T.size - 1 - k = q := ⟨_, rfl⟩
             have hqlt : q < T.size := by omega
             have hqi : (T.size : Int) - 1 - (k : Int) = (q : Int) := by omega
             have hw1 : IntKind.i64.wrap ((T.size : Int) - 1) = (T.size : Int) - 1 := IntWalk.i64_in _ (by omega)
             have hw2 : IntKind.i64.wrap ((T.size : Int) - 1 - (k : Int)) = (q : Int) := by rw [hqi]; exact IntWalk.i64_in _ (by omega)
             have hw3 : IntKind.u8.wrap ((d.toNat : Int) - 48) = (d.toNat : Int) - 48 := by rw [IntKind.wrap_u8]; omega
             obtain ⟨uu, huu⟩ : ∃ uu, (u8s lc)[q]? = some uu := ⟨_, List.getElem?_eq_getElem (by rw [u8s_len]; omega)⟩
             have z0 := at_block hZx q uu (by simpa using huu)
             have fz0 := free_block hZx q
             have hqi0 : (0 : Int) ≤ (q : Int) := by omega
             have hqlti : (q : Int) < (T.size : Int) := by omega
             clear hZx huu hqi
             go_upto_region 14 with fail
             go_region
             go_wp2_with fail
             go_roundg f
             case measure => omega
             case rel =>
              refine ⟨k + 1, lc.set q (d.toNat - 48), by go_num, by omega, by omega, by rw [List.length_set, hlc], (hbx.setCell (p := ⟨X + 2, q, none⟩) (by show X ≤ X + 2; omega) _).drew, ?_, ?_, ?_, ?_⟩
              · exact (Below.heap_setCell wr ⟨X + 2, q, none⟩ _ X (show X ≠ X + 2 by omega)).trans HXx.out
              · exact (Below.heap_setCell wr ⟨X + 2, q, none⟩ _ (X + 1) (show X + 1 ≠ X + 2 by omega)).trans HYx.out
              · rw [u8s_set, show ((d.toNat - 48 : Nat) : Int) = (d.toNat : Int) - 48 by omega]
                exact block_set HZx.out q _
              · rw [List.take_add_one, HD.out, List.all_append, HAL.out]
                simp only [Option.toList_some, List.all_cons, List.all_nil, Bool.and_true, Bool.true_and]
                exact Dc.isDig_iff.2 ⟨by omega, by omega⟩
       · obtain rfl : k = T.size := by omega
         have hin : ¬ (T.size : Int) < (T.size : Int) := by omega
         have hall2 : T.data.toList.all Dc.isDig = true := by
          have := HAL.out
          rwa [List.take_of_length_le (by rw [data_len]; omega)] at this
         have hfin : Dc.intB s.data.toList = true := by rw [HF.out, hall2]; rfl
         have HFI := Lib.hid hfin
         have hR := Reads.of_block hZx
         have hl2 : (u8s lc).length = T.size := by rw [u8s_len, hlc]
         rw [hl2] at hR
         have TR := Lib.hid (trim_any (some ⟨X + 2, 0, none⟩) T.size T.size lc wr hR (Nat.le_refl _) (by omega))
         clear hall2 hfin hR hl2 hZx
         go_wp2_with fail
         refine (TR.out).mono ?_
         rintro x w7 ⟨⟨m, rfl⟩, rfl⟩
         go_wp2_with fail
         refine bodyPost_ret (v := .tuple #[.agg #[.bool g, .slice (some ⟨X + 2, 0, none⟩) m T.size], .bool true]) (by simp [results, Tryz.results126, go_sem, x0, x1]) rfl ?_
         refine ⟨⟨g, some ⟨X + 2, 0, none⟩, m, T.size, by rw [HFI.out]⟩, ?_⟩
         try rw [HX.out]
         exact ((hbx.setCell (p := ⟨X + 1, 1, none⟩) (by show X ≤ X + 1; omega) _).setCell (p := ⟨X, 0, none⟩) (Nat.le_refl _) _).setCell (p := ⟨X, 1, none⟩) (Nat.le_refl _) _
theorem intvalid_any (s : ByteArray) (w : World) (hs : s.size ≤ 1073741824) : Calls Tryz.prog 80 #[.string s] w fun x w' => x = .returned (.bool (Dc.intB s.data.toList)) ∧ Below w.heap.size w w' := by
 obtain ⟨b, hb⟩ : ∃ b, Dc.intB s.data.toList = b := ⟨_, rfl⟩
 have IR := Lib.hid (intread_any s w hs)
 rw [hb] at IR ⊢
 clear hb
 go_enter Tryz.func80, Tryz.ntmps80
 go_wp2_with fail
 refine (IR.out).mono ?_
 rintro x w7 ⟨⟨g, A, n, c, rfl⟩, hb7⟩
 go_wp2_with fail
 go_ret
 exact ⟨rfl, hb7.alloc hb7.size _⟩
namespace Dc
theorem readP_noe {l : List UInt8} (h : indexByte l 101 = -1) : readP l = none := by unfold readP; simp [h]
theorem readP_noint {l : List UInt8} {k : Nat} (h : indexByte l 101 = (k : Int)) (hi : intB (l.take k) = false) : readP l = none := by
 unfold readP
 simp only [h, Int.toNat_natCast, hi]
 rw [if_neg (by omega), if_pos trivial]
theorem readP_long {l : List UInt8} {k : Nat} (h : indexByte l 101 = (k : Int)) (hl : 6 < (l.length : Int) - (k : Int)) : readP l = none := by
 unfold readP
 simp only [h, Int.toNat_natCast]
 rw [if_neg (by omega)]
 rw [if_pos hl]
 split <;> rfl
theorem readP_noatoi {l : List UInt8} {k : Nat} (h : indexByte l 101 = (k : Int)) (ha : ∀ v, atoiAll (l.drop (k + 1)) ≠ .ok v) : readP l = none := by
 unfold readP
 simp only [h, Int.toNat_natCast]
 rw [if_neg (by omega)]
 cases hh : atoiAll (l.drop (k + 1)) with
 | ok e => exact absurd hh (ha e)
 | range => simp
 | _ => simp
theorem readP_lim {l : List UInt8} {k : Nat} {e : Int} {x : D} (h : indexByte l 101 = (k : Int)) (hi : intB (l.take k) = true) (hl : ¬ 6 < (l.length : Int) - (k : Int)) (ha : atoiAll (l.drop (k + 1)) = .ok e)
 (hx : norm (l.head? == some 45) (vals (unsign (l.take k))) e = x) : readP l = if limit x = 0 ∧ showB x = l then some x else none := by
 unfold readP
 simp only [h, Int.toNat_natCast, hi]
 rw [if_neg (by omega), if_neg (by simp), if_neg hl, ha]
 simp only [hx]
theorem parse_bound : ∀ (l : List UInt8) (acc u : Nat), parseUint10 acc l = .ok u → u < (acc + 1) * 10 ^ l.length
 | [], acc, u, h => by
   simp only [parseUint10] at h
   injection h with h
   subst h; simp
 | c :: r, acc, u, h => by
   simp only [parseUint10] at h
   split at h
   · split at h
     · cases h
     · split at h
       · cases h
       · have := parse_bound r _ u h
         rw [List.length_cons, Nat.pow_succ]
         have h2 : (acc * 10 + (c.toNat - 48) + 1) * 10 ^ r.length ≤ ((acc + 1) * 10) * 10 ^ r.length := Nat.mul_le_mul_right _ (by omega)
         rw [Nat.mul_comm (10 ^ r.length) 10, ← Nat.mul_assoc]
         omega
   · cases h
theorem atoi_bound {l : List UInt8} {v : Int} (hl : l.length ≤ 5) (h : atoiAll l = .ok v) : -100000 ≤ v ∧ v ≤ 100000 := by
 have key : ∀ (r : List UInt8) (u : Nat), r.length ≤ 5 → parseMag r = .ok u → u < 100000 := by
  intro r u hr hp
  rw [parseMag] at hp
  split at hp
  · cases hp
  · have h1 := parse_bound r 0 u hp
    have h2 := Nat.pow_le_pow_right (n := 10) (by decide) hr
    have h3 : (10 : Nat) ^ 5 = 100000 := by decide
    omega
 cases l with
 | nil => cases h
 | cons c r =>
   simp only [List.length_cons] at hl
   simp only [atoiAll] at h
   split at h
   · cases h
   · cases h
   · rename_i u hu
     have hu2 : u < 100000 := by
      split at hu
      · exact key r u (by omega) hu
      · exact key (c :: r) u (by simp; omega) hu
     split at h
     · cases h
     · split at h
       · cases h
       · injection h with h
         split at h <;> omega
theorem norm_len (g : Bool) (l : List Nat) (e : Int) : (norm g l e).c.length ≤ l.length := by
 rw [norm]
 split
 · simp
 · show (core (lead l)).length ≤ _
   rw [core_len]; have := lead_len l; omega
theorem norm_e (g : Bool) (l : List Nat) (e : Int) : (norm g l e).e = 0 ∨ (e ≤ (norm g l e).e ∧ (norm g l e).e ≤ e + l.length) := by
 rw [norm]
 split
 · exact Or.inl rfl
 · right
   show e ≤ e + (trail (lead l) : Int) ∧ e + (trail (lead l) : Int) ≤ e + l.length
   have := trail_le (lead l); have := lead_len l; omega
theorem intB_all {l : List UInt8} (h : intB l = true) : (unsign l).all isDig = true := by
 simp only [intB, Bool.and_eq_true] at h
 obtain ⟨⟨⟨h0, _⟩, _⟩, h⟩ := h
 rw [unsign]
 by_cases h45 : l.head? = some 45
 · rw [if_pos h45]
   by_cases hl : 1 < l.length
   · rw [intTail, if_pos ⟨hl, h45⟩] at h; exact h
   · cases l with
     | nil => cases h45
     | cons a l =>
       have : l = [] := by
        cases l with
        | nil => rfl
        | cons b l => simp at hl
       subst this; rfl
 · rw [if_neg h45]
   rw [intTail, if_neg (by simp [h45])] at h; exact h
theorem trim_unsign (l : List UInt8) : trimPrefix l [45] = unsign l := by
 rw [unsign, trimPrefix, hasPrefix]
 cases l with
 | nil => rfl
 | cons b l =>
   by_cases h : b = 45
   · subst h; simp
   · have h2 : ¬ (45 : UInt8) = b := fun e => h e.symm
     simp [List.isPrefixOf, h, h2]
end Dc
theorem s3_set {W : World} {G X j : Nat} {a b c v : Value} (h : W.cell? ⟨G, 0, none⟩ = some a ∧ W.cell? ⟨G, 1, none⟩ = some b ∧ W.cell? ⟨G, 2, none⟩ = some c) (hne : G ≠ X) :
 (W.setCell ⟨X, j, none⟩ v).cell? ⟨G, 0, none⟩ = some a ∧ (W.setCell ⟨X, j, none⟩ v).cell? ⟨G, 1, none⟩ = some b ∧ (W.setCell ⟨X, j, none⟩ v).cell? ⟨G, 2, none⟩ = some c :=
 ⟨(World.cell?_setCell_other W _ _ _ (by intro e; cases e; exact hne rfl)).trans h.1, (World.cell?_setCell_other W _ _ _ (by intro e; cases e; exact hne rfl)).trans h.2.1, (World.cell?_setCell_other W _ _ _ (by intro e; cases e; exact hne rfl)).trans h.2.2⟩
theorem ba_eq {T s : ByteArray} (h : T = s) : (T == s) = true := by
 subst h
 show (T.data == T.data) = true
 simp
theorem ba_ne {T s : ByteArray} (h : ¬ T = s) : (T == s) = false := by
 have : (T.data == s.data) = false := beq_eq_false_iff_ne.2 (fun e => h (ByteArray.ext e))
 exact this
theorem alloc_kept {w w2 : World} {o : Obj} (h : Below (w.alloc o).drew.heap.size (w.alloc o).drew w2) : w2.heap[w.heap.size]? = some o := by
 have h1 : w.heap.size < (w.alloc o).drew.heap.size := by show w.heap.size < (w.alloc o).heap.size; simp
 rw [h.block w.heap.size h1]
 exact heap_alloc_new w o
theorem alloc_kept' {w w2 : World} {o : Obj} (h : Below (w.alloc o).heap.size (w.alloc o) w2) : w2.heap[w.heap.size]? = some o := by
 rw [h.block w.heap.size (by simp)]
 exact heap_alloc_new w o
theorem b_alloc {a W : World} (h : Below a.heap.size a W) (o : Obj) : Below a.heap.size a (W.alloc o) := h.alloc h.size o
theorem b_set {a W : World} {X j : Nat} (h : Below a.heap.size a W) (hX : a.heap.size ≤ X) (v : Value) : Below a.heap.size a (W.setCell ⟨X, j, none⟩ v) := h.setCell (p := ⟨X, j, none⟩) hX v
theorem Reads.beside {w w' : World} {B : Nat} {A A' : Option Addr} {n : Nat} {l : List Nat} {X : Nat} {t : TypeId} {a : Bool} {m m' : Nat} {c : Int} (h : Reads w B A n (u8s l)) (hX : w.heap[X]? = some (.cells #[.bool a, .slice A' m m', .int .i64 c] t)) (hk : ∀ k, k ≠ X → w'.heap[k]? = w.heap[k]?) :
 Reads w' B A n (u8s l) := by
 refine ⟨h.1, fun hn => ?_⟩
 obtain ⟨g, off, rfl, hb, hcell⟩ := h.2 hn
 have hne : g ≠ X := by
  rintro rfl
  have hlen := h.1
  cases l with
  | nil => simp [u8s] at hlen; omega
  | cons r rs =>
    have h0 := hcell 0 (.int .u8 r) rfl
    rw [World.cell?, hX] at h0
    match off, h0 with
    | 0, h0 => simp at h0
    | 1, h0 => simp at h0
    | 2, h0 => simp at h0
    | k + 3, h0 => simp at h0
 exact ⟨g, off, rfl, hb, fun j u hj => by rw [← hcell j u hj]; exact World.cell?_of_block (hk g hne)⟩
def ReadEnd (w : World) (x : Ending) (r : Option Dc.D) : Prop := ∃ g A n e, x = .returned (.tuple #[.agg #[.bool g, .slice A n n, .int .i64 e], .bool r.isSome]) ∧
 ∀ y, r = some y → g = y.neg ∧ n = y.c.length ∧ e = y.e ∧ Reads w w.heap.size A n (u8s y.c)
theorem ReadEnd.bad {w : World} {x : Ending} {r : Option Dc.D} (hr : r = none) (hx : x = .returned (.tuple #[.agg #[.bool false, .slice none 0 0, .int .i64 0], .bool false])) : ReadEnd w x r := by
 subst hr
 exact ⟨false, none, 0, 0, hx, fun y h => by cases h⟩
theorem read_any (s : ByteArray) (w : World) (hs : s.size ≤ 536870912) (hL : Laid w) : Calls Tryz.prog 59 #[.string s] w fun x w' => ReadEnd w' x (Dc.readP s.data.toList) ∧ Below w.heap.size w w' := by
 obtain ⟨X, hX⟩ : ∃ X, w.heap.size = X := ⟨_, rfl⟩
 obtain ⟨w1, hw1⟩ : ∃ w1 : World, w.alloc (.cells #[.bool false, .slice none 0 0, .int .i64 0] 104) = w1 := ⟨_, rfl⟩
 have hb1 : Below X w w1 := by rw [← hw1, ← hX]; exact (Below.refl _ _).alloc (Nat.le_refl _) _
 have hX1 : w1.heap[X]? = some (.cells #[.bool false, .slice none 0 0, .int .i64 0] 104 (0, 0)) := by rw [← hw1, ← hX]; exact heap_alloc_new w _
 have hL1 : Laid w1 := hL.on (by rw [hX]; exact hb1)
 have x0 := at_block hX1 0 _ rfl
 have x1 := at_block hX1 1 _ rfl
 have x2 := at_block hX1 2 _ rfl
 have f0 := free_block hX1 0
 have f1 := free_block hX1 1
 have f2 := free_block hX1 2
 have hlt1 := lt_of_block hX1
 have HX1 := Lib.hid hX1
 have HW1 := Lib.hid hw1
 have HX := Lib.hid hX
 have HL1 := Lib.hid hL1
 have hd1 : Below w1.heap.size w1 w1 := Below.refl _ _
 have IB := Lib.hid (fun W => Tryz.strings_IndexByte s 101 W)
 have hIB : (101 : Int).toNat.toUInt8 = 101 := rfl
 rw [hIB] at IB
 clear hX1 hw1 hL hL1 hIB
 rcases Dc.index_is s.data.toList 101 with ⟨hk, _⟩ | ⟨k, hk, hkl, _, _⟩
 · have HP := Lib.hid (Dc.readP_noe hk)
   rw [hk] at IB
   clear hk
   go_enter Tryz.func59, Tryz.ntmps59
   go_wp2_with fail
   rw [HW1.out]
   refine (IB.out _).mono ?_
   rintro x w7 ⟨rfl, rfl⟩
   go_wp2_with fail
   refine bodyPost_ret (v := .tuple #[.agg #[.bool false, .slice none 0 0, .int .i64 0], .bool false]) (by simp [results, Tryz.results59, go_sem, x0, x1, x2]) rfl ?_
   refine ⟨ReadEnd.bad HP.out rfl, ?_⟩
   try rw [HX.out]
   exact ((hb1.setCell (p := ⟨X, 0, none⟩) (Nat.le_refl _) _).setCell (p := ⟨X, 1, none⟩) (Nat.le_refl _) _).setCell (p := ⟨X, 2, none⟩) (Nat.le_refl _) _
 · rw [data_len] at hkl
   rw [hk] at IB
   have hk0 : (0 : Int) ≤ (k : Int) := by omega
   have hkn : ¬ (k : Int) < 0 := by omega
   have hkle : (k : Int) ≤ (s.size : Int) := by omega
   obtain ⟨P, hP⟩ : ∃ P, s.extract 0 k = P := ⟨_, rfl⟩
   have hPd : P.data.toList = s.data.toList.take k := by rw [← hP, data_to]
   have hPs : P.size ≤ s.size := by rw [← hP, ByteArray.size_extract]; omega
   obtain ⟨b, hb⟩ : ∃ b, Dc.intB P.data.toList = b := ⟨_, rfl⟩
   have IV := Lib.hid (fun W => intvalid_any P W (by omega))
   rw [hb] at IV
   rw [hPd] at hb
   have HPP := Lib.hid hP
   have HPD := Lib.hid hPd
   have HK := Lib.hid hk
   cases b with
   | false =>
     have HP := Lib.hid (Dc.readP_noint hk hb)
     clear hk hb hP hPd
     go_enter Tryz.func59, Tryz.ntmps59
     go_wp2_with fail
     rw [HW1.out]
     refine (IB.out _).mono ?_
     rintro x w7 ⟨rfl, rfl⟩
     go_wp2_with fail
     rw [HPP.out]
     refine (IV.out _).mono ?_
     rintro x w8 ⟨rfl, hb8⟩
     have q := (hb8.block X hlt1).trans HX1.out
     clear x0 x1 x2 f0 f1 f2
     have x0 := at_block q 0 _ rfl
     have x1 := at_block q 1 _ rfl
     have x2 := at_block q 2 _ rfl
     have f0 := free_block q 0
     have f1 := free_block q 1
     have f2 := free_block q 2
     have HQ := Lib.hid q
     clear q
     go_wp2_with fail
     refine bodyPost_ret (v := .tuple #[.agg #[.bool false, .slice none 0 0, .int .i64 0], .bool false]) (by simp [results, Tryz.results59, go_sem, x0, x1, x2]) rfl ?_
     refine ⟨ReadEnd.bad HP.out rfl, ?_⟩
     try rw [HX.out]
     exact (((hb1.trans (hb8.mono (by omega))).setCell (p := ⟨X, 0, none⟩) (Nat.le_refl _) _).setCell (p := ⟨X, 1, none⟩) (Nat.le_refl _) _).setCell (p := ⟨X, 2, none⟩) (Nat.le_refl _) _
   | true =>
     by_cases hlong : 6 < (s.size : Int) - (k : Int)
     · have HP := Lib.hid (Dc.readP_long hk (by rw [data_len]; exact hlong))
       have hwl : IntKind.i64.wrap ((s.size : Int) - (k : Int)) = (s.size : Int) - (k : Int) := IntWalk.i64_in _ (by omega)
       clear hk hb hP hPd
       go_enter Tryz.func59, Tryz.ntmps59
       go_wp2_with fail
       rw [HW1.out]
       refine (IB.out _).mono ?_
       rintro x w7 ⟨rfl, rfl⟩
       go_wp2_with fail
       rw [HPP.out]
       refine (IV.out _).mono ?_
       rintro x w8 ⟨rfl, hb8⟩
       have q := (hb8.block X hlt1).trans HX1.out
       clear x0 x1 x2 f0 f1 f2
       have x0 := at_block q 0 _ rfl
       have f0 := free_block q 0
       have x1 := at_block q 1 _ rfl
       have f1 := free_block q 1
       have x2 := at_block q 2 _ rfl
       have f2 := free_block q 2
       have HQ := Lib.hid q
       clear q
       go_wp2_with fail
       refine bodyPost_ret (v := .tuple #[.agg #[.bool false, .slice none 0 0, .int .i64 0], .bool false]) (by simp [results, Tryz.results59, go_sem, x0, x1, x2]) rfl ?_
       refine ⟨ReadEnd.bad HP.out rfl, ?_⟩
       try rw [HX.out]
       exact (((hb1.trans (hb8.mono (by omega))).setCell (p := ⟨X, 0, none⟩) (Nat.le_refl _) _).setCell (p := ⟨X, 1, none⟩) (Nat.le_refl _) _).setCell (p := ⟨X, 2, none⟩) (Nat.le_refl _) _
     · have hwl : IntKind.i64.wrap ((s.size : Int) - (k : Int)) = (s.size : Int) - (k : Int) := IntWalk.i64_in _ (by omega)
       obtain ⟨R, hR⟩ : ∃ R, s.extract (k + 1) s.size = R := ⟨_, rfl⟩
       have hRd : R.data.toList = s.data.toList.drop (k + 1) := by rw [← hR, data_from]
       have hRs : R.size ≤ 5 := by rw [← hR, ByteArray.size_extract]; omega
       have hk1 : (k : Int) + 1 ≤ (s.size : Int) := by omega
       have hk10 : (0 : Int) ≤ (k : Int) + 1 := by omega
       have HR := Lib.hid hR
       have HRD := Lib.hid hRd
       have HBT := Lib.hid hb
       by_cases hat : ∀ v, atoiAll R.data.toList ≠ .ok v
       · have HP := Lib.hid (Dc.readP_noatoi hk (by rw [← hRd]; exact hat))
         have AT := Lib.hid (fun W hW => atoi_bad R (by omega) hat W hW)
         clear hk hb hP hPd hR hRd hat
         go_enter Tryz.func59, Tryz.ntmps59
         go_wp2_with fail
         rw [HW1.out]
         refine (IB.out _).mono ?_
         rintro x w7 ⟨rfl, rfl⟩
         go_wp2_with fail
         rw [HPP.out]
         refine (IV.out _).mono ?_
         rintro x w8 ⟨rfl, hb8⟩
         go_wp2_with fail
         rw [HR.out]
         refine (AT.out _ (HL1.out.on hb8)).mono ?_
         rintro x w9 ⟨v, N, rfl, hb9⟩
         have hd9 := hb8.trans (hb9.mono hb8.size)
         have q := (hd9.block X hlt1).trans HX1.out
         clear x0 x1 x2 f0 f1 f2
         have x0 := at_block q 0 _ rfl
         have f0 := free_block q 0
         have x1 := at_block q 1 _ rfl
         have f1 := free_block q 1
         have x2 := at_block q 2 _ rfl
         have f2 := free_block q 2
         have HQ := Lib.hid q
         clear q
         go_wp2_with fail
         refine bodyPost_ret (v := .tuple #[.agg #[.bool false, .slice none 0 0, .int .i64 0], .bool false]) (by simp [results, Tryz.results59, go_sem, x0, x1, x2]) rfl ?_
         refine ⟨ReadEnd.bad HP.out rfl, ?_⟩
         try rw [HX.out]
         exact (((hb1.trans (hd9.mono (by omega))).setCell (p := ⟨X, 0, none⟩) (Nat.le_refl _) _).setCell (p := ⟨X, 1, none⟩) (Nat.le_refl _) _).setCell (p := ⟨X, 2, none⟩) (Nat.le_refl _) _
       · obtain ⟨e, he⟩ : ∃ e, atoiAll R.data.toList = .ok e := by
          cases ha : atoiAll R.data.toList with
          | ok e => exact ⟨e, rfl⟩
          | range => exact absurd (fun v h => by rw [ha] at h; cases h) hat
          | _ => exact absurd (fun v h => by rw [ha] at h; cases h) hat
         have heb := Dc.atoi_bound (by rw [data_len]; exact hRs) he
         have AT := Lib.hid (fun W => atoi_ok R (by omega) e he W)
         have HE := Lib.hid he
         obtain ⟨C, hC⟩ : ∃ C : ByteArray, ⟨(Lib.trimPrefix P.data.toList [45]).toArray⟩ = C := ⟨_, rfl⟩
         have hCd : C.data.toList = Dc.unsign (s.data.toList.take k) := by rw [← hC]; simp [Dc.trim_unsign, hPd]
         have TP := Lib.hid (fun W => Tryz.strings_TrimPrefix P ⟨#[45]⟩ W)
         have h45l : (ByteArray.mk #[45]).data.toList = [45] := rfl
         rw [h45l, hC] at TP
         have hCs : C.size ≤ s.size := by
          rw [← data_len, hCd, Dc.unsign]
          split
          · rw [List.length_drop, List.length_take, data_len]; omega
          · rw [List.length_take, data_len]; omega
         have hCall : C.data.toList.all Dc.isDig = true := by rw [hCd]; exact Dc.intB_all hb
         have BY := Lib.hid (fun W => bytes_any C W hCall (by omega))
         have HCD := Lib.hid hCd
         have hdg : Dc.Digs (Dc.vals C.data.toList) := Dc.vals_digs hCall
         have hvl : (Dc.vals C.data.toList).length = C.size := by rw [Dc.vals, List.length_map, data_len]
         obtain ⟨gn, hgn⟩ : ∃ gn, (s.data.toList.head? == some 45) = gn := ⟨_, rfl⟩
         obtain ⟨y, hy⟩ : ∃ y, Dc.norm gn (Dc.vals C.data.toList) e = y := ⟨_, rfl⟩
         have hyn : Dc.Normal y := by rw [← hy]; exact Dc.norm_normal hdg
         have hyl : y.c.length ≤ C.size := by rw [← hy, ← hvl]; exact Dc.norm_len _ _ _
         have hye : -4611686018427387904 ≤ y.e ∧ y.e ≤ 4611686018427387904 := by
          have := Dc.norm_e gn (Dc.vals C.data.toList) e
          rw [hy, hvl] at this
          omega
         have NO := Lib.hid (fun A W hW => norm_any gn A C.size C.size (Dc.vals C.data.toList) e W hW (Nat.le_refl _) (by omega) (by omega))
         rw [hy] at NO
         have HP := Lib.hid (Dc.readP_lim hk hb (by rw [data_len]; exact hlong) (by rw [← hRd]; exact he) (by rw [hgn, ← hCd, hy]))
         have hpos : (0 : Int) < (s.size : Int) := by omega
         obtain ⟨d, hd⟩ : ∃ d : UInt8, s[0]'(by omega) = d := ⟨_, rfl⟩
         have hd45 : ((d.toNat : Int) == 45) = gn := by
          rw [← hgn, head_at (byte_at (by omega) hd)]
          by_cases h : d = 45
          · subst h; rfl
          · rw [byte_ne (c := 45) (n := 45) rfl h]; simp [h]
         have HY := Lib.hid hy
         have HGN := Lib.hid hgn
         clear hk hb hP hPd hR hRd hat he hC hCd hCall hdg hvl hgn hy h45l
         go_enter Tryz.func59, Tryz.ntmps59
         go_wp2_with fail
         rw [HW1.out]
         refine (IB.out _).mono ?_
         rintro x w7 ⟨rfl, rfl⟩
         go_wp2_with fail
         rw [HPP.out]
         refine (IV.out _).mono ?_
         rintro x w8 ⟨rfl, hb8⟩
         go_wp2_with fail
         rw [HR.out]
         refine (AT.out _).mono ?_
         rintro x w9 ⟨rfl, hb9⟩
         have hd9 := hb8.trans (hb9.mono hb8.size)
         go_wp2_with fail
         rw [HPP.out]
         refine (TP.out _).mono ?_
         rintro x w10 ⟨rfl, rfl⟩
         go_upto_region 8 with fail
         have hd10 : Below w7.heap.size w7 w10 := hd9
         go_cut [8] (fun s8 wx => ∃ (G : Nat) (A : Option Addr), s8 = .pointer (some ⟨G, 0, none⟩) ∧ w7.heap.size ≤ G ∧ wx.heap[G]? = some (.cells #[.bool y.neg, .slice A y.c.length y.c.length, .int .i64 y.e] 104 (0, 0)) ∧ Reads wx wx.heap.size A y.c.length (u8s y.c) ∧ Below w7.heap.size w7 wx)
         case first =>
          go_region_held3 (fun W => Below w10.heap.size w10 W)
           (with_reducible first | assumption | ((repeat' (first | assumption | exact Below.refl _ _ | refine b_drew ?_ | refine b_alloc ?_ _ | refine b_set ?_ ?_ _ | exact Nat.le_refl _ | exact Below.size (by assumption))); done))
           (first | (go_at_call 108; refine (BY.out _).mono ?_; rintro x w11 ⟨Gb, rfl, hRb, hb11⟩; have hS11 := b_trans (by assumption) hb11; try (have q11 : w11.heap[w10.heap.size]? = some (.cells #[.bool false, .slice none 0 0, .int .i64 0] 104 (0, 0)) := (by first | exact alloc_kept hb11 | exact alloc_kept' hb11))) | (go_at_call 107; refine (NO.out _ _ (hRb.on (by first | exact Below.refl _ _ | exact (Below.refl _ _).drew | exact ((Below.refl _ _).alloc (Nat.le_refl _) _) | exact ((Below.refl _ _).alloc (Nat.le_refl _) _).drew))).mono ?_; rintro x w12 ⟨v, rfl, ⟨A, rfl, hRn⟩, hb12⟩; have hS12 := b_trans (by assumption) hb12; first | (have q : w12.heap[w11.heap.size]? = some (.cells #[.bool false, .slice none 0 0, .int .i64 0] 104 (0, 0)) := (by first | exact alloc_kept hb12 | exact alloc_kept' hb12); have q0 := at_block q 0 _ rfl; have q1 := at_block q 1 _ rfl; have q2 := at_block q 2 _ rfl; have g0 := free_block q 0; have g1 := free_block q 1; have g2 := free_block q 2; have HQQ := Lib.hid q; clear q) | (have q : w12.heap[w10.heap.size]? = some (.cells #[.bool false, .slice none 0 0, .int .i64 0] 104 (0, 0)) := (hb12.block _ (lt_of_block q11)).trans q11; have q0 := at_block q 0 _ rfl; have q1 := at_block q 1 _ rfl; have q2 := at_block q 2 _ rfl; have g0 := free_block q 0; have g1 := free_block q 1; have g2 := free_block q 2; have HQQ := Lib.hid q; clear q) | skip))
          all_goals first
           | (have hQ := HQQ.out
              go_wp2_with fail
              go_meet
              refine ⟨_, A, rfl, (by first | exact hd10.size | exact Nat.le_trans hd10.size hS11.size), block_set (block_set (block_set hQ 0 _) 1 _) 2 _, ?_, ?_⟩
              · refine Reads.more (Reads.beside hRn hQ fun k hk => ?_) (by simp [World.setCell])
                rw [Below.heap_setCell _ _ _ _ hk, Below.heap_setCell _ _ _ _ hk, Below.heap_setCell _ _ _ _ hk]
              · exact hd10.trans ((b_set (b_set (b_set hS12 (by first | exact Nat.le_refl _ | exact hS11.size) _) (by first | exact Nat.le_refl _ | exact hS11.size) _) (by first | exact Nat.le_refl _ | exact hS11.size) _).mono hd10.size))
           | (go_wp2_with fail
              go_meet
              exact ⟨w12.heap.size, A, rfl, Nat.le_trans hd10.size hS12.size, heap_alloc_new w12 _, (hRn.alloc (Nat.le_refl _) _).more (by simp), hd10.trans ((b_alloc hS12 _).mono hd10.size)⟩)
         case rest =>
          obtain ⟨G, A, rfl, hGle, hGc, hRc, hbc⟩ := hcut
          have hGX : G ≠ X := by omega
          have hXc := (hbc.block X hlt1).trans HX1.out
          have hXlt := lt_of_block hXc
          have hGlt := lt_of_block hGc
          have hcells : ∀ W, Below wc.heap.size wc W → W.cell? ⟨G, 0, none⟩ = some (.bool y.neg) ∧ W.cell? ⟨G, 1, none⟩ = some (.slice A y.c.length y.c.length) ∧ W.cell? ⟨G, 2, none⟩ = some (.int .i64 y.e) := fun W hW => by
           have h1 := (hW.block G hGlt).trans hGc
           exact ⟨at_block h1 0 _ rfl, at_block h1 1 _ rfl, at_block h1 2 _ rfl⟩
          obtain ⟨m, hm⟩ : ∃ m, Dc.limit y = m := ⟨_, rfl⟩
          obtain ⟨T, hT⟩ : ∃ T : ByteArray, ⟨(Dc.showB y).toArray⟩ = T := ⟨_, rfl⟩
          have LI := Lib.hid (fun W => limit_any y.neg A y.c.length y.c.length y.e W)
          have TX := Lib.hid (fun W hW hLW => dectext_any y.neg A y.c.length y.c y.e W hW hyn.1 (by omega) hye hLW)
          have hm' := hm
          rw [limN_eq, hm] at LI
          have hyy : (⟨y.neg, y.c, y.e⟩ : Dc.D) = y := by cases y; rfl
          rw [hyy, hT] at TX
          have HLC := Lib.hid (HL1.out.on hbc)
          have hPP := HP.out
          rw [hm] at hPP
          have hTl : Dc.showB y = s.data.toList ↔ T = s := by
           constructor
           · intro h; rw [← hT, h]
           · intro h; rw [← h, ← hT]
          have HC := Lib.hid hcells
          have HXC := Lib.hid hXc
          have HRC := Lib.hid hRc
          have HYN := Lib.hid hyn
          obtain ⟨gy, hgy⟩ : ∃ z, y.neg = z := ⟨_, rfl⟩
          obtain ⟨ny, hny⟩ : ∃ z, y.c.length = z := ⟨_, rfl⟩
          obtain ⟨ey, hey⟩ : ∃ z, y.e = z := ⟨_, rfl⟩
          rw [hgy, hny, hey] at HC
          rw [hgy, hny, hey] at LI
          rw [hgy, hny, hey] at TX
          rw [hny] at HRC
          obtain ⟨p0, p1, p2⟩ := HC.out wc (Below.refl _ _)
          have hdc : Below wc.heap.size wc wc := Below.refl _ _
          have HGY := Lib.hid hgy
          have HNY := Lib.hid hny
          have HEY := Lib.hid hey
          clear hcells hXc hRc hm hT hyn hGc hyl hgy hny hey hyy hye x0 x1 x2 f0 f1 f2
          have hm3 : m = 0 ∨ m = 2 ∨ m = 6 := by
           rw [← hm', Dc.limit]
           split
           · exact Or.inr (Or.inr rfl)
           · split
             · exact Or.inr (Or.inl rfl)
             · exact Or.inl rfl
          clear hm'
          by_cases h0 : m = 0
          · subst h0
            by_cases hts : T = s
            · rw [if_pos ⟨rfl, hTl.2 hts⟩] at hPP
              have hbe : (T == s) = true := ba_eq hts
              have htl : T.toList = s.toList := by rw [hts]
              have HPP2 := Lib.hid hPP
              clear hPP hTl hts
              go_upto_region 9 with fail
              go_region_held3 (fun W => W.cell? ⟨G, 0, none⟩ = some (.bool gy) ∧ W.cell? ⟨G, 1, none⟩ = some (.slice A ny ny) ∧ W.cell? ⟨G, 2, none⟩ = some (.int .i64 ey))
               (first | (refine HC.out _ ?_; first | assumption | exact Below.refl _ _ | exact (Below.refl _ _).drew | exact b_drew (by assumption)) | (refine s3_set ?_ hGX; refine s3_set ?_ hGX; refine s3_set ?_ hGX; first | assumption | (refine HC.out _ ?_; first | assumption | exact b_drew (by assumption))))
               (first | (go_at_call 109; refine (LI.out _).mono ?_; rintro x w13 ⟨rfl, hb13⟩; have hb13' := b_trans (a := wc) (by first | assumption | exact Below.refl _ _ | exact (Below.refl _ _).drew | exact b_drew (by assumption)) hb13; have q := (hb13'.block X hXlt).trans HXC.out; have x0 := at_block q 0 _ rfl; have x1 := at_block q 1 _ rfl; have x2 := at_block q 2 _ rfl; have f0 := free_block q 0; have f1 := free_block q 1; have f2 := free_block q 2; have HQ := Lib.hid q; clear q) | (go_at_call 110; refine (TX.out _ (HRC.out.on (by first | assumption | exact Below.refl _ _ | exact (Below.refl _ _).drew | exact b_drew (by assumption))) (HLC.out.on (by first | assumption | exact Below.refl _ _ | exact (Below.refl _ _).drew | exact b_drew (by assumption)))).mono ?_; rintro x w13 ⟨rfl, hb13⟩; have hb13' := b_trans (a := wc) (by first | assumption | exact Below.refl _ _ | exact (Below.refl _ _).drew | exact b_drew (by assumption)) hb13; have q := (hb13'.block X hXlt).trans HXC.out; have x0 := at_block q 0 _ rfl; have x1 := at_block q 1 _ rfl; have x2 := at_block q 2 _ rfl; have f0 := free_block q 0; have f1 := free_block q 1; have f2 := free_block q 2; have HQ := Lib.hid q; clear q))
              all_goals
               go_wp2_with fail
               refine bodyPost_ret (v := .tuple #[.agg #[.bool gy, .slice A ny ny, .int .i64 ey], .bool true]) (by first | (simp [results, Tryz.results59, go_sem, x0, x1, x2]; done) | (simp [results, Tryz.results59, go_sem, x0, x1, x2, htl]; done)) rfl ?_
               refine ⟨?_, ?_⟩
               · rw [HPP2.out]
                 refine ⟨gy, A, ny, ey, rfl, fun y' hy' => ?_⟩
                 cases hy'
                 refine ⟨HGY.out.symm, HNY.out.symm, HEY.out.symm, ?_⟩
                 refine Reads.more (Reads.beside (HRC.out.on hb13') HQ.out fun k hk => ?_) (by simp [World.setCell])
                 rw [Below.heap_setCell _ _ _ _ hk, Below.heap_setCell _ _ _ _ hk, Below.heap_setCell _ _ _ _ hk]
               · try rw [HX.out]
                 exact (((hb1.trans ((hbc.trans (hb13'.mono hbc.size)).mono (by omega))).setCell (p := ⟨X, 0, none⟩) (Nat.le_refl _) _).setCell (p := ⟨X, 1, none⟩) (Nat.le_refl _) _).setCell (p := ⟨X, 2, none⟩) (Nat.le_refl _) _
            · have hbe : (T == s) = false := ba_ne hts
              have htl : ¬ T.toList = s.toList := fun h => hts (by rw [Lib.toList_data, Lib.toList_data] at h; exact ByteArray.ext (Array.toList_inj.1 h))
              rw [if_neg (fun h => hts (hTl.1 h.2))] at hPP
              have HPP2 := Lib.hid hPP
              clear hPP hTl hts
              go_upto_region 9 with fail
              go_region_held3 (fun W => W.cell? ⟨G, 0, none⟩ = some (.bool gy) ∧ W.cell? ⟨G, 1, none⟩ = some (.slice A ny ny) ∧ W.cell? ⟨G, 2, none⟩ = some (.int .i64 ey))
               (first | (refine HC.out _ ?_; first | assumption | exact Below.refl _ _ | exact (Below.refl _ _).drew | exact b_drew (by assumption)) | (refine s3_set ?_ hGX; refine s3_set ?_ hGX; refine s3_set ?_ hGX; first | assumption | (refine HC.out _ ?_; first | assumption | exact b_drew (by assumption))))
               (first | (go_at_call 109; refine (LI.out _).mono ?_; rintro x w13 ⟨rfl, hb13⟩; have hb13' := b_trans (a := wc) (by first | assumption | exact Below.refl _ _ | exact (Below.refl _ _).drew | exact b_drew (by assumption)) hb13; have q := (hb13'.block X hXlt).trans HXC.out; have x0 := at_block q 0 _ rfl; have x1 := at_block q 1 _ rfl; have x2 := at_block q 2 _ rfl; have f0 := free_block q 0; have f1 := free_block q 1; have f2 := free_block q 2; have HQ := Lib.hid q; clear q) | (go_at_call 110; refine (TX.out _ (HRC.out.on (by first | assumption | exact Below.refl _ _ | exact (Below.refl _ _).drew | exact b_drew (by assumption))) (HLC.out.on (by first | assumption | exact Below.refl _ _ | exact (Below.refl _ _).drew | exact b_drew (by assumption)))).mono ?_; rintro x w13 ⟨rfl, hb13⟩; have hb13' := b_trans (a := wc) (by first | assumption | exact Below.refl _ _ | exact (Below.refl _ _).drew | exact b_drew (by assumption)) hb13; have q := (hb13'.block X hXlt).trans HXC.out; have x0 := at_block q 0 _ rfl; have x1 := at_block q 1 _ rfl; have x2 := at_block q 2 _ rfl; have f0 := free_block q 0; have f1 := free_block q 1; have f2 := free_block q 2; have HQ := Lib.hid q; clear q))
              all_goals
               go_wp2_with fail
               refine bodyPost_ret (v := .tuple #[.agg #[.bool gy, .slice A ny ny, .int .i64 ey], .bool false]) (by first | (simp [results, Tryz.results59, go_sem, x0, x1, x2]; done) | (simp [results, Tryz.results59, go_sem, x0, x1, x2, htl]; done)) rfl ?_
               refine ⟨?_, ?_⟩
               · rw [HPP2.out]
                 exact ⟨gy, A, ny, ey, rfl, fun y' hy' => by cases hy'⟩
               · try rw [HX.out]
                 exact (((hb1.trans ((hbc.trans (hb13'.mono hbc.size)).mono (by omega))).setCell (p := ⟨X, 0, none⟩) (Nat.le_refl _) _).setCell (p := ⟨X, 1, none⟩) (Nat.le_refl _) _).setCell (p := ⟨X, 2, none⟩) (Nat.le_refl _) _
          · rw [if_neg (fun h => h0 h.1)] at hPP
            have hmi : ((m : Int) == 0) = false := by simp; omega
            have HPP2 := Lib.hid hPP
            clear hPP hTl hm3
            go_upto_region 9 with fail
            refine wp_region_held_drew (S := fun W => W.cell? ⟨G, 0, none⟩ = some (.bool gy) ∧ W.cell? ⟨G, 1, none⟩ = some (.slice A ny ny) ∧ W.cell? ⟨G, 2, none⟩ = some (.int .i64 ey)) (by kernel_rfl) ⟨p0, p1, p2⟩ (fun hHeld => ?_)
            refine wpAnyH_take (i := 0) (v := .agg #[.bool gy, .slice A ny ny, .int .i64 ey]) rfl (by kernel_rfl) (by kernel_rfl) (by kernel_rfl) (fun _ _ _ h => h) (Or.inl ⟨by rfl, ?_⟩) hHeld ?_
            · intro W ⟨r0, r1, r2⟩; go_simp
            try simp only [Act.put, List.setIfInBounds_toArray, List.set_cons_zero, List.set_cons_succ, List.getElem_toArray, List.getElem_cons_zero]
            refine wpAnyH_take (i := 1) (v := .agg #[.bool gy, .slice A ny ny, .int .i64 ey]) rfl (by kernel_rfl) (by kernel_rfl) (by kernel_rfl) (fun _ _ _ h => h) (Or.inl ⟨by rfl, ?_⟩) hHeld ?_
            · intro W ⟨r0, r1, r2⟩; go_simp
            try simp only [Act.put, List.setIfInBounds_toArray, List.set_cons_zero, List.set_cons_succ, List.getElem_toArray, List.getElem_cons_zero, List.getElem_cons_succ]
            refine wpAnyH_ready (rs := [2]) (by kernel_rfl) (by simp) ?_
            refine AllReadyH.cons rfl (fun K hK => ?_) AllReadyH.nil
            rw [if_pos (by rfl)]
            go_simp
            refine (LI.out _).mono ?_
            rintro x w13 ⟨rfl, hb13⟩
            have hb13' : Below wc.heap.size wc w13 := b_trans (a := wc) (Below.refl _ _).drew hb13
            have q := (hb13'.block X hXlt).trans HXC.out
            have x0 := at_block q 0 _ rfl
            have x1 := at_block q 1 _ rfl
            have x2 := at_block q 2 _ rfl
            have f0 := free_block q 0
            have f1 := free_block q 1
            have f2 := free_block q 2
            have HQ := Lib.hid q
            clear q
            refine hK.out _ _ (HC.out _ hb13') (fun hHeld => ?_)
            clear hK K
            try simp only [Act.put, List.setIfInBounds_toArray, List.set_cons_zero, List.set_cons_succ, List.getElem_toArray, List.getElem_cons_zero, List.getElem_cons_succ]
            refine wpAnyH_take (i := 3) (v := .bool false) rfl (by kernel_rfl) (by kernel_rfl) (by kernel_rfl) (fun _ _ _ h => h) (Or.inl ⟨by rfl, ?_⟩) hHeld ?_
            · intro W hW; go_simp
            try simp only [Act.put, List.setIfInBounds_toArray, List.set_cons_zero, List.set_cons_succ, List.getElem_toArray, List.getElem_cons_zero, List.getElem_cons_succ]
            refine wpAnyH_take (i := 4) (v := .bool false) rfl (by kernel_rfl) (by kernel_rfl) (by kernel_rfl) (fun _ _ _ h => h) (Or.inl ⟨by rfl, ?_⟩) hHeld ?_
            · intro W hW; go_simp
            try simp only [Act.put, List.setIfInBounds_toArray, List.set_cons_zero, List.set_cons_succ, List.getElem_toArray, List.getElem_cons_zero, List.getElem_cons_succ]
            refine wpAnyH_take (i := 5) (v := undef) rfl (by kernel_rfl) (by kernel_rfl) (by kernel_rfl) (fun _ _ _ h => h) (Or.inr ⟨by rfl, rfl⟩) hHeld ?_
            try simp only [Act.put, List.setIfInBounds_toArray, List.set_cons_zero, List.set_cons_succ, List.getElem_toArray, List.getElem_cons_zero, List.getElem_cons_succ]
            refine wpAnyH_take (i := 6) (v := undef) rfl (by kernel_rfl) (by kernel_rfl) (by kernel_rfl) (fun _ _ _ h => h) (Or.inr ⟨by rfl, rfl⟩) hHeld ?_
            try simp only [Act.put, List.setIfInBounds_toArray, List.set_cons_zero, List.set_cons_succ, List.getElem_toArray, List.getElem_cons_zero, List.getElem_cons_succ]
            refine wpAnyH_take (i := 7) (v := undef) rfl (by kernel_rfl) (by kernel_rfl) (by kernel_rfl) (fun _ _ _ h => h) (Or.inr ⟨by rfl, rfl⟩) hHeld ?_
            try simp only [Act.put, List.setIfInBounds_toArray, List.set_cons_zero, List.set_cons_succ, List.getElem_toArray, List.getElem_cons_zero, List.getElem_cons_succ]
            refine wpAnyH_take (i := 8) (v := undef) rfl (by kernel_rfl) (by kernel_rfl) (by kernel_rfl) (fun _ _ _ h => h) (Or.inr ⟨by rfl, rfl⟩) hHeld ?_
            try simp only [Act.put, List.setIfInBounds_toArray, List.set_cons_zero, List.set_cons_succ, List.getElem_toArray, List.getElem_cons_zero, List.getElem_cons_succ]
            refine wpAnyH_take (i := 9) (v := .bool false) rfl (by kernel_rfl) (by kernel_rfl) (by kernel_rfl) (fun _ _ _ h => h) (Or.inl ⟨by rfl, ?_⟩) hHeld ?_
            · intro W hW; go_simp
            try simp only [Act.put, List.setIfInBounds_toArray, List.set_cons_zero, List.set_cons_succ, List.getElem_toArray, List.getElem_cons_zero, List.getElem_cons_succ]
            refine wpAnyH_ready (rs := [10]) (by kernel_rfl) (by simp) ?_
            refine AllReadyH.cons rfl (fun K hK => ?_) AllReadyH.nil
            rw [if_pos (by rfl)]
            go_simp
            refine hK.out _ _ (s3_set (s3_set (s3_set (HC.out _ hb13') hGX) hGX) hGX) (fun hHeld => ?_)
            clear hK K
            try simp only [Act.put, List.setIfInBounds_toArray, List.set_cons_zero, List.set_cons_succ, List.getElem_toArray, List.getElem_cons_zero, List.getElem_cons_succ]
            refine wpAnyH_take (i := 11) (v := .bool false) rfl (by kernel_rfl) (by kernel_rfl) (by kernel_rfl) (fun _ _ _ h => h) (Or.inl ⟨by rfl, ?_⟩) hHeld ?_
            · intro W hW; go_simp
            try simp only [Act.put, List.setIfInBounds_toArray, List.set_cons_zero, List.set_cons_succ, List.getElem_toArray, List.getElem_cons_zero, List.getElem_cons_succ]
            refine wpAnyH_done (by kernel_rfl) ?_ _
            go_wp2_with fail
            refine bodyPost_ret (v := .tuple #[.agg #[.bool gy, .slice A ny ny, .int .i64 ey], .bool false]) (by simp [results, Tryz.results59, go_sem, x0, x1, x2]) rfl ?_
            refine ⟨?_, ?_⟩
            · rw [HPP2.out]
              exact ⟨gy, A, ny, ey, rfl, fun y' hy' => by cases hy'⟩
            · try rw [HX.out]
              exact (((hb1.trans ((hbc.trans (hb13'.mono hbc.size)).mono (by omega))).setCell (p := ⟨X, 0, none⟩) (Nat.le_refl _) _).setCell (p := ⟨X, 1, none⟩) (Nat.le_refl _) _).setCell (p := ⟨X, 2, none⟩) (Nat.le_refl _) _
theorem valid_any (s : ByteArray) (w : World) (hs : s.size ≤ 536870912) (hL : Laid w) : Calls Tryz.prog 54 #[.string s] w fun x w' => x = .returned (.bool (Dc.readP s.data.toList).isSome) ∧ Below w.heap.size w w' := by
 have key : Calls Tryz.prog 59 #[.string s] w fun x w' => (∃ g A n e, x = .returned (.tuple #[.agg #[.bool g, .slice A n n, .int .i64 e], .bool (Dc.readP s.data.toList).isSome])) ∧ Below w.heap.size w w' := by
  refine (read_any s w hs hL).mono ?_
  rintro x w' ⟨⟨g, A, n, e, rfl, _⟩, hb⟩
  exact ⟨⟨g, A, n, e, rfl⟩, hb⟩
 obtain ⟨b, hb⟩ : ∃ b, (Dc.readP s.data.toList).isSome = b := ⟨_, rfl⟩
 rw [hb] at key ⊢
 have RD := Lib.hid key
 clear key hb
 go_enter Tryz.func54, Tryz.ntmps54
 go_wp2_with fail
 refine (RD.out).mono ?_
 rintro x w7 ⟨⟨g, A, n, e, rfl⟩, hb7⟩
 go_wp2_with fail
 go_ret
 exact ⟨rfl, hb7.alloc hb7.size _⟩
end Go.Proofs.YtjapgpmoojfhnaaGreatDoor
