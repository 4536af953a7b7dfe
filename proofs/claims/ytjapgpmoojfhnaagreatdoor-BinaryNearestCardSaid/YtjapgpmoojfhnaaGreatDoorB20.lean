/- law03's Text: a canonical integer text of at most 400 digits. integer's trim and read at canonical texts. integer's short: a list of digits divided by 256. integer's Valid and Magnitude at canonical texts. binary.Of: the bytes of a magnitude gathered. binary.Of at canonical texts. binary.Of at nought. ref03's Of at canonical texts: the bytes of a text behind its sign. -/
import Derived.Test.YtjapgpmoojfhnaaGreatDoorB19
set_option maxHeartbeats 16000000
set_option maxRecDepth 100000
set_option linter.unusedSimpArgs false
set_option linter.unusedVariables false
namespace Go.Proofs.YtjapgpmoojfhnaaGreatDoor
open Go.RowKit Go.Lib
def GoodT (l : List Nat) : Prop := (∀ x ∈ l, 48 ≤ x ∧ x ≤ 57) ∧ l.head? ≠ some 48
theorem GoodT.nil : GoodT [] := ⟨by simp, by simp⟩
theorem GoodT.snoc {l : List Nat} (h : GoodT l) {d : Nat} (h1 : 48 ≤ d) (h2 : d ≤ 57) (h3 : d = 48 → l ≠ []) : GoodT (l ++ [d]) := by
 refine ⟨fun x hx => ?_, ?_⟩
 · rw [List.mem_append] at hx
   rcases hx with hx | hx
   · exact h.1 x hx
   · rw [List.mem_singleton.1 hx]; exact ⟨h1, h2⟩
 · cases l with
   | nil =>
     intro he
     have : d = 48 := by simpa using he
     exact h3 this rfl
   | cons c l => exact h.2
theorem GoodT.take {l : List Nat} (h : GoodT l) (k : Nat) (hk : 0 < k) : GoodT (l.take k) := by
 refine ⟨fun x hx => h.1 x (List.mem_of_mem_take hx), ?_⟩
 rw [List.head?_take, if_neg (by omega)]
 exact h.2
def HeldT (X : Nat) (g : Bool) (D : ByteArray) (n : Nat) (w : World) (N : Nat) (v : Value) (wx : World) : Prop :=
 ∃ acc : List Nat, GoodT acc ∧ acc.length ≤ N ∧ wx.heap[X]? = some (.cells #[.bool g, .string D, .int .u16 (n : Int)] 72 (0, 0)) ∧ wx.ownsRow (X + 1) 5 1 v acc.length (u8s acc) ∧ X + 1 ≤ wx.heap.size ∧ Below X w wx
theorem u8s_snoc (acc : List Nat) (d : Nat) : u8s (acc ++ [d]) = u8s acc ++ [.int .u8 (d : Int)] := by simp [u8s]
theorem HeldT.mono {X : Nat} {g : Bool} {D : ByteArray} {n : Nat} {w : World} {N M : Nat} {v : Value} {wx : World} (h : HeldT X g D n w N v wx) (hm : N ≤ M) : HeldT X g D n w M v wx := by
 obtain ⟨acc, h1, h2, h3⟩ := h
 exact ⟨acc, h1, by omega, h3⟩
theorem text03_any (g : Bool) (D : ByteArray) (n : Nat) (hn : n < 65536) (w : World) : Calls Tryz.prog 37 #[.agg #[.bool g, .string D, .int .u16 (n : Int)]] w fun x w' => ∃ T : List Nat, GoodT T ∧ T.length ≤ 400 ∧ x = .returned (.string (if T = [] then ⟨#[48]⟩ else if g = true then ⟨((45 :: T.map UInt8.ofNat) : List UInt8).toArray⟩ else ⟨(T.map UInt8.ofNat).toArray⟩)) ∧ Below w.heap.size w w' := by
 obtain ⟨i0, hi, hz0, hz1, hz2⟩ := info_parts info5
 obtain ⟨q, hq⟩ : ∃ q, n % 450 = q := ⟨_, rfl⟩
 have hq4 : q < 450 := by omega
 have q1 : Int.tmod (n : Int) 450 = (q : Int) := by rw [Int.tmod_eq_emod_of_nonneg (by omega)]; omega
 have q2 : (n : Int) % 450 = (q : Int) := by omega
 have q3 : IntKind.u16.wrap (q : Int) = (q : Int) := by rw [IntKind.wrap_u16]; omega
 have q4 : IntKind.i64.wrap (q : Int) = (q : Int) := IntWalk.i64_in _ (by omega)
 clear hq hn
 go_enter Tryz.func37, Tryz.ntmps37
 go_upto_block 0 with fail
 obtain ⟨X, hX⟩ : ∃ X, w.heap.size = X := ⟨_, rfl⟩
 obtain ⟨w2, hw2⟩ : ∃ w2, w.alloc (.cells #[.bool g, .string D, .int .u16 (n : Int)] 72) = w2 := ⟨_, rfl⟩
 have hXc := heap_alloc_new w (.cells #[.bool g, .string D, .int .u16 (n : Int)] 72)
 have hb2 : Below X w w2 := by rw [← hw2, ← hX]; exact (Below.refl _ _).alloc (Nat.le_refl _) _
 have hs2 : w2.heap.size = X + 1 := by rw [← hw2, ← hX]; simp
 rw [hw2, hX] at hXc
 rw [hw2, hX]
 have HX := Lib.hid hX
 clear hw2 hX
 go_cut [3, 4] (fun t3 t4 wx => HeldT X g D n w 450 t3 wx)
 case first =>
  go_wp2_with fail
  go_loopg [3, 4] 450 (fun f t3 t4 wx => ∃ k : Nat, t4 = .int .i64 (k : Int) ∧ k + f = 450 ∧ HeldT X g D n w k t3 wx)
  case atStart => exact ⟨0, rfl, rfl, [], GoodT.nil, by simp, hXc, World.ownsRow_nil _ _ _ _, by omega, hb2⟩
  case round =>
   obtain ⟨k, rfl, hk, hH⟩ := hrel
   have hH2 := hH
   obtain ⟨acc, hG, hal, hA, hown, hsz, hbx⟩ := hH2
   obtain ⟨A, cp, rfl⟩ := own_form hown
   have HG := Lib.hid (And.intro hG hal)
   have z1 := at_block hA 1 _ rfl
   by_cases hkD : k < D.size
   · have n1 : decide (k < D.size) = true := decide_eq_true hkD
     by_cases hk4 : k < 450
     · obtain ⟨f, rfl⟩ : ∃ f, gk = f + 1 := ⟨gk - 1, by omega⟩
       have n2 : decide (k < 450) = true := decide_eq_true hk4
       have n2b : decide ((k : Int) < 450) = true := decide_eq_true (by omega)
       obtain ⟨d, hd⟩ : ∃ d : UInt8, D[k]'hkD = d := ⟨_, rfl⟩
       have hk0 : (0 : Int) ≤ (k : Int) := by omega
       have hki : (k : Int) < D.size := by omega
       have k1 : IntKind.i64.wrap ((k : Int) + 1) = ((k + 1 : Nat) : Int) := by have := IntWalk.i64_in ((k : Int) + 1) (by omega); rw [this]; omega
       by_cases hgood : 48 ≤ d.toNat ∧ d.toNat ≤ 57 ∧ (d.toNat = 48 → acc ≠ [])
       · obtain ⟨g1, g2, g3⟩ := hgood
         have c1 : decide (48 ≤ d.toNat) = true := decide_eq_true g1
         have c1b : decide ((48 : Int) ≤ (d.toNat : Int)) = true := decide_eq_true (by omega)
         have c2 : decide (d.toNat ≤ 57) = true := decide_eq_true g2
         have c2b : decide ((d.toNat : Int) ≤ 57) = true := decide_eq_true (by omega)
         obtain ⟨bz, hbz⟩ : ∃ bz, ((d.toNat : Int) == 48) = bz := ⟨_, rfl⟩
         obtain ⟨m, hm⟩ : ∃ m, acc.length = m := ⟨_, rfl⟩
         have hm0 : bz = true → 0 < m := fun h => by
          rw [← hm]
          rw [h] at hbz
          have := eq_of_beq hbz
          exact List.length_pos_iff.2 (g3 (by omega))
         have hG2 : GoodT (acc ++ [d.toNat]) := HG.out.1.snoc g1 g2 g3
         have hal2 : (acc ++ [d.toNat]).length ≤ k + 1 := by rw [List.length_append]; simp; omega
         rw [hm] at hown hal
         rw [hm]
         have HA := Lib.hid hA
         have HM := Lib.hid hm
         have HG2 := Lib.hid (And.intro hG2 hal2)
         have HBX := Lib.hid hbx
         clear hA hH hG hG2 hal2 hm g3 hbx
         have fin : ∀ (v' : Value) (w3 : World), w3.ownsRow (X + 1) 5 1 v' (m + 1) (u8s acc ++ [.int .u8 (d.toNat : Int)]) → Below (X + 1) wr w3 → HeldT X g D n w (k + 1) v' w3 := fun v' w3 ho hb => by
          refine ⟨acc ++ [d.toNat], HG2.out.1, HG2.out.2, (hb.block X (by omega)).trans HA.out, ?_, by have := hb.size; omega, HBX.out.trans (hb.mono (by omega))⟩
          rw [u8s_snoc, List.length_append, HM.out]
          exact ho
         have FIN := Lib.hid fin
         clear fin
         cases bz with
         | true =>
           have hm1 := hm0 rfl
           obtain rfl : d = 48 := UInt8.toNat_inj.1 (by have := eq_of_beq hbz; show d.toNat = 48; omega)
           have c3 : decide (0 < m) = true := decide_eq_true hm1
           have c3b : decide ((0 : Int) < (m : Int)) = true := decide_eq_true (by omega)
           clear hm0
           go_wp2_with (at_builtin; refine wpList_append_own _ rfl _ _ 31 rfl (X + 1) 5 i0 (.int .u8 0) 1 1 Tryz.underlying31 hi hz0 hz1 hz2 rfl (by decide) _ _ _ rfl (hown.alloc _) ⟨wr.heap.size, 0, none⟩ 1 1 [.int .u8 (48 : Int)] rfl rfl ?c1 ?c2 ?c3 ?c4 ?c5 ?_)
           case c1 =>
            intro j u' hj
            match j, hj with
            | 0, hj => simp at hj; subst hj; simp [Addr.add]
           case c2 => intro u' hu'; simp at hu'; subst hu'; rfl
           case c3 => unfold maxLen; omega
           case c4 => omega
           case c5 => simp; omega
           intro v' w3 hown3 hgr3 _
           have hb3 : Below (X + 1) wr w3 := ((Below.refl _ _).alloc (by omega) _).grown hgr3 (by simp; omega) (fun k hk => (hown.lt k hk).1)
           have H3 := Lib.hid (FIN.out _ _ hown3 hb3)
           clear hgr3 hown hown3 hb3 z1
           go_wp2_with fail
           go_roundg f
           case measure => omega
           case rel => exact ⟨k + 1, rfl, by omega, H3.out⟩
         | false =>
           have hbn : ((d.toNat : Int) != 48) = true := by rw [bne, hbz]; rfl
           clear hm0
           go_wp2_with (at_builtin; refine wpList_append_own _ rfl _ _ 31 rfl (X + 1) 5 i0 (.int .u8 0) 1 1 Tryz.underlying31 hi hz0 hz1 hz2 rfl (by decide) _ _ _ rfl (hown.alloc _) ⟨wr.heap.size, 0, none⟩ 1 1 [.int .u8 (d.toNat : Int)] rfl rfl ?c1 ?c2 ?c3 ?c4 ?c5 ?_)
           case c1 =>
            intro j u' hj
            match j, hj with
            | 0, hj => simp at hj; subst hj; simp [Addr.add]
           case c2 => intro u' hu'; simp at hu'; subst hu'; rfl
           case c3 => unfold maxLen; omega
           case c4 => omega
           case c5 => simp; omega
           intro v' w3 hown3 hgr3 _
           have hb3 : Below (X + 1) wr w3 := ((Below.refl _ _).alloc (by omega) _).grown hgr3 (by simp; omega) (fun k hk => (hown.lt k hk).1)
           have H3 := Lib.hid (FIN.out _ _ hown3 hb3)
           clear hgr3 hown hown3 hb3 z1
           go_wp2_with fail
           go_roundg f
           case measure => omega
           case rel => exact ⟨k + 1, rfl, by omega, H3.out⟩
       · have hcase : d.toNat < 48 ∨ 57 < d.toNat ∨ (d.toNat = 48 ∧ acc = []) := by
          by_cases a1 : d.toNat < 48
          · exact .inl a1
          · by_cases a2 : 57 < d.toNat
            · exact .inr (.inl a2)
            · refine .inr (.inr ?_)
              by_cases a3 : d.toNat = 48
              · refine ⟨a3, ?_⟩
                by_cases a4 : acc = []
                · exact a4
                · exact absurd ⟨by omega, by omega, fun _ => a4⟩ hgood
              · exact absurd ⟨by omega, by omega, fun h => absurd h a3⟩ hgood
         obtain ⟨m, hm⟩ : ∃ m, acc.length = m := ⟨_, rfl⟩
         rw [hm] at hown hH
         have HH := Lib.hid (hH.mono (Nat.le_succ k))
         have hcase2 : d.toNat < 48 ∨ 57 < d.toNat ∨ (d.toNat = 48 ∧ m = 0) := by
          rcases hcase with h | h | ⟨h1, h2⟩
          · exact .inl h
          · exact .inr (.inl h)
          · exact .inr (.inr ⟨h1, by rw [← hm, h2]; rfl⟩)
         rw [hm]
         clear hH hA hown hsz hbx hgood hcase hm hG hal
         rcases hcase2 with h | h | ⟨h, rfl⟩
         · have c1 : decide (48 ≤ d.toNat) = false := decide_eq_false (by omega)
           have c1b : decide ((48 : Int) ≤ (d.toNat : Int)) = false := decide_eq_false (by omega)
           clear h
           go_wp2_with fail
           go_roundg f
           case measure => omega
           case rel => exact ⟨k + 1, rfl, by omega, HH.out⟩
         · have c1 : decide (48 ≤ d.toNat) = true := decide_eq_true (by omega)
           have c1b : decide ((48 : Int) ≤ (d.toNat : Int)) = true := decide_eq_true (by omega)
           have c2 : decide (d.toNat ≤ 57) = false := decide_eq_false (by omega)
           have c2b : decide ((d.toNat : Int) ≤ 57) = false := decide_eq_false (by omega)
           clear h
           go_wp2_with fail
           go_roundg f
           case measure => omega
           case rel => exact ⟨k + 1, rfl, by omega, HH.out⟩
         · have hd48 : d = 48 := UInt8.toNat_inj.1 h
           subst hd48
           clear h
           go_wp2_with fail
           go_roundg f
           case measure => omega
           case rel => exact ⟨k + 1, rfl, by omega, HH.out⟩
     · have n2 : decide (k < 450) = false := decide_eq_false hk4
       have n2b : decide ((k : Int) < 450) = false := decide_eq_false (by omega)
       have HH := Lib.hid (hH.mono (show k ≤ 450 by omega))
       clear hH hA hown hsz hbx
       go_wp2_with fail
       go_meet
       exact HH.out
   · have n1 : decide (k < D.size) = false := decide_eq_false hkD
     have HH := Lib.hid (hH.mono (show k ≤ 450 by omega))
     clear hH hA hown hsz hbx
     go_wp2_with fail
     go_meet
     exact HH.out
 case rest =>
  obtain ⟨acc, hG, hal, hA, hown, hsz, hbx⟩ := hcut
  have z2 := at_block hA 2 _ rfl
  have H0 := Lib.hid (show HeldT X g D n w 450 _ wc from ⟨acc, hG, hal, hA, hown, hsz, hbx⟩)
  clear hG hal hA hown hsz hbx
  go_wp2_with fail
  clear z2
  go_loopg [3, 51] q (fun f t3 t51 wx => ∃ k : Nat, t51 = .int .i64 (k : Int) ∧ k + f = q ∧ HeldT X g D n w (450 + k) t3 wx)
  case atStart => exact ⟨0, rfl, by omega, H0.out⟩
  case round =>
   obtain ⟨k, rfl, hk, acc, hG, hal, hA, hown, hsz, hbx⟩ := hrel
   obtain ⟨A, cp, rfl⟩ := own_form hown
   by_cases hkq : k < q
   · obtain ⟨f, rfl⟩ : ∃ f, gk = f + 1 := ⟨gk - 1, by omega⟩
     have n1 : decide (k < q) = true := decide_eq_true hkq
     have n1b : decide ((k : Int) < (q : Int)) = true := decide_eq_true (by omega)
     have k1 : IntKind.i64.wrap ((k : Int) + 1) = ((k + 1 : Nat) : Int) := by have := IntWalk.i64_in ((k : Int) + 1) (by omega); rw [this]; omega
     obtain ⟨m, hm⟩ : ∃ m, acc.length = m := ⟨_, rfl⟩
     have hG2 : GoodT (acc ++ [57]) := hG.snoc (by omega) (by omega) (by omega)
     have hal2 : (acc ++ [57]).length ≤ 450 + (k + 1) := by rw [List.length_append]; simp; omega
     rw [hm] at hown hal
     rw [hm]
     have HA := Lib.hid hA
     have HM := Lib.hid hm
     have HG2 := Lib.hid (And.intro hG2 hal2)
     have HBX := Lib.hid hbx
     clear hA hG hG2 hal2 hm hbx
     have fin : ∀ (v' : Value) (w3 : World), w3.ownsRow (X + 1) 5 1 v' (m + 1) (u8s acc ++ [.int .u8 57]) → Below (X + 1) wr w3 → HeldT X g D n w (450 + (k + 1)) v' w3 := fun v' w3 ho hb => by
      refine ⟨acc ++ [57], HG2.out.1, HG2.out.2, (hb.block X (by omega)).trans HA.out, ?_, by have := hb.size; omega, HBX.out.trans (hb.mono (by omega))⟩
      rw [u8s_snoc, List.length_append, HM.out]
      exact ho
     have FIN := Lib.hid fin
     clear fin H0
     go_wp2_with (at_builtin; refine wpList_append_own _ rfl _ _ 31 rfl (X + 1) 5 i0 (.int .u8 0) 1 1 Tryz.underlying31 hi hz0 hz1 hz2 rfl (by decide) _ _ _ rfl (hown.alloc _) ⟨wr.heap.size, 0, none⟩ 1 1 [.int .u8 57] rfl rfl ?c1 ?c2 ?c3 ?c4 ?c5 ?_)
     case c1 =>
      intro j u' hj
      match j, hj with
      | 0, hj => simp at hj; subst hj; simp [Addr.add]
     case c2 => intro u' hu'; simp at hu'; subst hu'; rfl
     case c3 => unfold maxLen; omega
     case c4 => omega
     case c5 => simp; omega
     intro v' w3 hown3 hgr3 _
     have hb3 : Below (X + 1) wr w3 := ((Below.refl _ _).alloc (by omega) _).grown hgr3 (by simp; omega) (fun k hk => (hown.lt k hk).1)
     have H3 := Lib.hid (FIN.out _ _ hown3 hb3)
     clear hgr3 hown hown3 hb3
     go_wp2_with fail
     go_roundg f
     case measure => omega
     case rel => exact ⟨k + 1, rfl, by omega, H3.out⟩
   · have n1 : decide (k < q) = false := decide_eq_false hkq
     have n1b : decide ((k : Int) < (q : Int)) = false := decide_eq_false (by omega)
     obtain ⟨A', c', hv, hnc, hr⟩ := own_slice hown
     injection hv with h2 _ h3
     subst h2
     subst h3
     obtain ⟨m, hm⟩ : ∃ m, acc.length = m := ⟨_, rfl⟩
     have z0 := at_block hA 0 _ rfl
     have HBX := Lib.hid hbx
     rw [hm] at hown hr hnc
     rw [hm]
     clear hbx
     by_cases hm0 : m = 0
     · subst hm0
       clear hown hr hA hG hal hkq H0 hm hnc
       cases g
       all_goals
        go_wp2_with fail
        refine bodyPost_ret (v := .string ⟨#[48]⟩) (by simp [results, Tryz.results37, go_sem]) rfl ?_
        rw [HX.out]
        exact ⟨[], GoodT.nil, by simp, rfl, HBX.out⟩
     · obtain ⟨b, off, _, rfl, _, _, _⟩ := hr.at_ (k := 0) (by omega)
       by_cases hm4 : 400 < m
       · have n3 : decide (400 < m) = true := decide_eq_true hm4
         have n3b : decide ((400 : Int) < (m : Int)) = true := decide_eq_true (by omega)
         have n4 : (400 : Int) ≤ (cp : Int) := by omega
         have n5 : 400 ≤ cp := by omega
         obtain ⟨T, hTe⟩ : ∃ T, acc.take 400 = T := ⟨_, rfl⟩
         have hr4 := hr.take 400 (by omega)
         have hTr : (u8s acc).take 400 = u8s T := by rw [← hTe]; simp [u8s, List.map_take]
         rw [hTr] at hr4
         have hcv := conv_bytes (c := cp) hr4 (fun h => by omega)
         have hGT : GoodT T := by rw [← hTe]; exact hG.take 400 (by omega)
         have hTl : T.length ≤ 400 := by rw [← hTe, List.length_take]; omega
         have hTn : T ≠ [] := fun h => by rw [h] at hTe; have := congrArg List.length hTe; rw [List.length_take, List.length_nil] at this; omega
         clear hTe hr4 hTr hm hm4 hnc
         obtain ⟨S, hS⟩ : ∃ S : ByteArray, (⟨(T.map UInt8.ofNat).toArray⟩ : ByteArray) = S := ⟨_, rfl⟩
         have hSs : S.size ≤ 1000 := by rw [← hS]; show ((T.map UInt8.ofNat)).length ≤ 1000; rw [List.length_map]; omega
         rw [hS] at hcv
         have hadd := fun W => run_string_add_sum (P := Tryz.prog) (w := W) ⟨#[45]⟩ S (by show 1 + S.size ≤ _; omega)
         have HT := Lib.hid (And.intro hGT (And.intro hTl hTn))
         have HS := Lib.hid hS
         clear hGT hTl hTn hS hSs hown hr hA hG hal hkq H0
         cases g with
         | true =>
           go_wp2_with fail
           refine bodyPost_ret (v := .string (⟨#[45]⟩ ++ S)) (by simp [results, Tryz.results37, go_sem]) rfl ?_
           rw [HX.out]
           refine ⟨T, HT.out.1, HT.out.2.1, ?_, HBX.out⟩
           rw [if_neg HT.out.2.2, ← HS.out]
           congr 2
         | false =>
           go_wp2_with fail
           refine bodyPost_ret (v := .string S) (by simp [results, Tryz.results37, go_sem]) rfl ?_
           rw [HX.out]
           refine ⟨T, HT.out.1, HT.out.2.1, ?_, HBX.out⟩
           rw [if_neg HT.out.2.2, HS.out]
       · have n3 : decide (400 < m) = false := decide_eq_false hm4
         have n3b : decide ((400 : Int) < (m : Int)) = false := decide_eq_false (by omega)
         have n4 : ((m : Int) == 0) = false := by rw [beq_eq_false_iff_ne]; omega
         have n5 : (m == 0) = false := by rw [beq_eq_false_iff_ne]; exact hm0
         obtain ⟨T, hTe⟩ : ∃ T, acc = T := ⟨_, rfl⟩
         rw [hTe] at hr hG hm
         have hcv := conv_bytes (c := cp) hr (fun h => by omega)
         have hGT : GoodT T := hG
         have hTl : T.length ≤ 400 := by omega
         have hTn : T ≠ [] := fun h => by rw [h] at hm; simp at hm; omega
         clear hTe hm hm4 hnc hm0
         obtain ⟨S, hS⟩ : ∃ S : ByteArray, (⟨(T.map UInt8.ofNat).toArray⟩ : ByteArray) = S := ⟨_, rfl⟩
         have hSs : S.size ≤ 1000 := by rw [← hS]; show ((T.map UInt8.ofNat)).length ≤ 1000; rw [List.length_map]; omega
         rw [hS] at hcv
         have hadd := fun W => run_string_add_sum (P := Tryz.prog) (w := W) ⟨#[45]⟩ S (by show 1 + S.size ≤ _; omega)
         have HT := Lib.hid (And.intro hGT (And.intro hTl hTn))
         have HS := Lib.hid hS
         clear hGT hTl hTn hS hSs hown hr hA hG hal hkq H0
         cases g with
         | true =>
           go_wp2_with fail
           refine bodyPost_ret (v := .string (⟨#[45]⟩ ++ S)) (by simp [results, Tryz.results37, go_sem]) rfl ?_
           rw [HX.out]
           refine ⟨T, HT.out.1, HT.out.2.1, ?_, HBX.out⟩
           rw [if_neg HT.out.2.2, ← HS.out]
           congr 2
         | false =>
           go_wp2_with fail
           refine bodyPost_ret (v := .string S) (by simp [results, Tryz.results37, go_sem]) rfl ?_
           rw [HX.out]
           refine ⟨T, HT.out.1, HT.out.2.1, ?_, HBX.out⟩
           rw [if_neg HT.out.2.2, HS.out]
def Trimmed (l : List Nat) (n m : Nat) : Prop := m ≤ n ∧ (m = 0 ∨ ∃ d, l[m - 1]? = some d ∧ d ≠ 0) ∧ ∀ j, m ≤ j → j < n → l[j]? = some 0
theorem u8s_set (l : List Nat) (q x : Nat) : (u8s (l.set q x)).toArray = (u8s l).toArray.setIfInBounds q (.int .u8 (x : Int)) := by
 rw [u8s, u8s, List.setIfInBounds_toArray, List.map_set]
structure ReadPre (s T : ByteArray) (g : Bool) : Prop where
 len : g = true → 1 < s.size
 head : ∀ h : 1 < s.size, (((s[0]'(by omega)).toNat : Int) == 45) = g
 cut : g = true → s.extract 1 s.size = T
 whole : g = false → s = T
 pos : 0 < T.size
 le : T.size ≤ 400
 digs : ∀ k (h : k < T.size), 48 ≤ (T[k]'h).toNat ∧ (T[k]'h).toNat ≤ 57
 one : ∀ h : 0 < T.size, (((T[0]'h).toNat : Int) == 48) = true → ¬ 1 < s.size
def ldig (T : ByteArray) : List Nat := (T.data.toList.map fun b => b.toNat - 48).reverse
def dv : List Nat → Nat
 | [] => 0
 | d :: l => d + 10 * dv l
theorem dv_drop {l : List Nat} {k d : Nat} (h : l[k]? = some d) : dv (l.drop k) = d + 10 * dv (l.drop (k + 1)) := by
 have hk : k < l.length := by
  rcases Nat.lt_or_ge k l.length with h1 | h1
  · exact h1
  · rw [List.getElem?_eq_none h1] at h; cases h
 rw [List.drop_eq_getElem_cons hk]
 have : l[k] = d := by rw [List.getElem?_eq_getElem hk] at h; exact Option.some.inj h
 rw [this]
 rfl
theorem dv_zeros : ∀ (l : List Nat), (∀ x ∈ l, x = 0) → dv l = 0
 | [], _ => rfl
 | d :: l, h => by
   rw [dv, dv_zeros l (fun x hx => h x (by simp [hx])), h d (by simp)]
theorem dv_append : ∀ (a b : List Nat), dv (a ++ b) = dv a + 10 ^ a.length * dv b
 | [], b => by simp [dv]
 | d :: a, b => by
   rw [List.cons_append, dv, dv, dv_append a b, List.length_cons, Nat.pow_succ]
   rw [Nat.mul_add, Nat.mul_comm (10 ^ a.length) 10, Nat.mul_assoc]
   omega
theorem dv_trim {l : List Nat} {m : Nat} (h : Trimmed l l.length m) : dv (l.take m) = dv l := by
 have e : l = l.take m ++ l.drop m := (List.take_append_drop m l).symm
 have hz : dv (l.drop m) = 0 := dv_zeros _ fun x hx => by
  obtain ⟨i, hi⟩ := List.mem_iff_getElem?.1 hx
  rw [List.getElem?_drop] at hi
  have hlt : m + i < l.length := by
   rcases Nat.lt_or_ge (m + i) l.length with h1 | h1
   · exact h1
   · rw [List.getElem?_eq_none h1] at hi; cases hi
  have := h.2.2 (m + i) (by omega) hlt
  rw [this] at hi
  exact (Option.some.inj hi).symm
 have h2 := dv_append (l.take m) (l.drop m)
 rw [← e, hz] at h2
 omega
def NoLead (l : List Nat) : Prop := l = [] ∨ ∃ d, l[l.length - 1]? = some d ∧ d ≠ 0
theorem noLead_trim {l : List Nat} {m : Nat} (h : Trimmed l l.length m) : NoLead (l.take m) := by
 obtain ⟨h1, h2 | ⟨d, h3, h4⟩, _⟩ := h
 · left; rw [h2]; rfl
 · by_cases hm : m = 0
   · left; rw [hm]; rfl
   · right
     refine ⟨d, ?_, h4⟩
     rw [List.length_take, Nat.min_eq_left h1, List.getElem?_take, if_pos (by omega)]
     exact h3
theorem dv_pos {l : List Nat} (h : NoLead l) (h0 : l ≠ []) : 0 < dv l := by
 rcases h with h | ⟨d, h1, h2⟩
 · exact absurd h h0
 · have hl : 0 < l.length := List.length_pos_iff.2 h0
   have e : l = l.take (l.length - 1) ++ l.drop (l.length - 1) := (List.take_append_drop _ l).symm
   have e2 := dv_append (l.take (l.length - 1)) (l.drop (l.length - 1))
   rw [← e, dv_drop h1] at e2
   have := Nat.mul_pos (Nat.pow_pos (n := (l.take (l.length - 1)).length) (show 0 < 10 by omega)) (show 0 < d + 10 * dv (l.drop (l.length - 1 + 1)) by omega)
   omega
theorem Reads.setOther {w : World} {B n : Nat} {A : Option Addr} {xs : List Value} (h : Reads w B A n xs) {p : Addr} (hA : ∀ b off, A = some ⟨b, off, none⟩ → b ≠ p.block) (u : Value) : Reads (w.setCell p u) B A n xs := by
 refine ⟨h.1, fun hn => ?_⟩
 obtain ⟨b, off, e, hb, hc⟩ := h.2 hn
 refine ⟨b, off, e, hb, fun j v hv => ?_⟩
 rw [← hc j v hv]
 have := Below.heap_setCell w p u b (hA b off e)
 unfold World.cell?
 simp only [this]
theorem fresh_row (W : World) (r : Nat) : (W.alloc (.cells #[.int .u8 (r : Int)] 5)).ownsRow W.heap.size 5 1 (.slice (some ⟨W.heap.size, 0, none⟩) 1 1) 1 [.int .u8 (r : Int)] :=
 ⟨rfl, Or.inr ⟨W.heap.size, 1, #[.int .u8 (r : Int)], rfl, Nat.le_refl _, heap_alloc_new W _, Nat.le_refl _, by unfold maxLen; omega, rfl, rfl⟩⟩
theorem readPre_zero : ReadPre ⟨#[48]⟩ ⟨#[48]⟩ false :=
 ⟨fun h => (by cases h), fun h => absurd h (by decide), fun h => (by cases h), fun _ => rfl, by decide, by decide,
   fun k h => by
    obtain rfl : k = 0 := by have : (⟨#[48]⟩ : ByteArray).size = 1 := rfl
                             omega
    exact ⟨by show 48 ≤ (48 : UInt8).toNat; decide, by show (48 : UInt8).toNat ≤ 57; decide⟩,
   fun _ _ => by decide⟩
theorem ReadPre.size {s T : ByteArray} {g : Bool} (h : ReadPre s T g) : s.size = T.size + (if g = true then 1 else 0) := by
 cases g with
 | true =>
   have h1 := h.len rfl
   have h2 := h.cut rfl
   rw [← h2, ByteArray.size_extract]
   simp
   omega
 | false =>
   rw [h.whole rfl]
   rfl
theorem ReadPre.at_ {s T : ByteArray} {g : Bool} (h : ReadPre s T g) (j : Nat) (hj : j < T.size) : ∃ hi : s.size - 1 - j < s.size, (ldig T)[j]? = some ((s[s.size - 1 - j]'hi).toNat - 48) ∧ 48 ≤ (s[s.size - 1 - j]'hi).toNat ∧ (s[s.size - 1 - j]'hi).toNat ≤ 57 := by
 have hs := h.size
 have hi : s.size - 1 - j < s.size := by omega
 have ht : T.size - 1 - j < T.size := by omega
 have key : s[s.size - 1 - j]'hi = T[T.size - 1 - j]'ht := by
  have h1 := byte_at hi rfl
  have h2 := byte_at ht rfl
  cases g with
  | false =>
    obtain rfl := h.whole rfl
    rfl
  | true =>
    have h3 : T.data.toList = s.data.toList.drop 1 := by
     rw [← h.cut rfl]
     simp
     rw [List.take_of_length_le (by rw [List.length_tail, Array.length_toList]; exact Nat.le_refl _)]
    rw [h3, List.getElem?_drop, show 1 + (T.size - 1 - j) = s.size - 1 - j by rw [hs]; simp; omega] at h2
    exact Option.some.inj (h1.symm.trans h2)
 refine ⟨hi, ?_, ?_, ?_⟩
 · have hz : T.data.toList.length = T.size := (ba_size T).symm
   rw [ldig, List.getElem?_reverse (by rw [List.length_map, hz]; exact hj), List.length_map, hz, List.getElem?_map, byte_at ht rfl, key]
   rfl
 · rw [key]; exact (h.digs _ ht).1
 · rw [key]; exact (h.digs _ ht).2
theorem ReadPre.minus {s T : ByteArray} (h : ReadPre s T true) (h0 : 0 < s.size) : (s[0]'h0).toNat = 45 := by
 have := h.head (h.len rfl)
 have := eq_of_beq this
 omega
theorem trim85_any (A : Option Addr) (n c : Nat) (l : List Nat) (w : World) (hr : Reads w w.heap.size A n (u8s l)) (hc : n ≤ c) (hn : n ≤ 1073741824) : Calls Tryz.prog 85 #[.slice A n c] w fun x w' => (∃ m, Trimmed l n m ∧ x = .returned (.slice A m c)) ∧ w' = w := by
 go_enter Tryz.func85, Tryz.ntmps85
 go_wp2_with fail
 go_loopg [3] n (fun f i wx => ∃ m : Nat, i = .int .i64 (m : Int) ∧ m ≤ n ∧ m ≤ f ∧ wx = w ∧ ∀ j, m ≤ j → j < n → l[j]? = some 0)
 case atStart => exact ⟨n, rfl, by omega, by omega, rfl, fun j h1 h2 => by omega⟩
 case round =>
  obtain ⟨m, rfl, hm, hf, hww, hz⟩ := hrel
  subst hww
  have hmc : m ≤ c := by omega
  have hmci : (m : Int) ≤ (c : Int) := by omega
  by_cases h0 : m = 0
  · subst h0
    have HZ := Lib.hid hz
    clear hz
    cases A with
    | none =>
      go_wp2_with fail
      go_ret
      exact ⟨⟨0, ⟨by omega, .inl rfl, HZ.out⟩, rfl⟩, rfl⟩
    | some a =>
      go_wp2_with fail
      go_ret
      exact ⟨⟨0, ⟨by omega, .inl rfl, HZ.out⟩, rfl⟩, rfl⟩
  · obtain ⟨q, rfl⟩ : ∃ q, m = q + 1 := ⟨m - 1, by omega⟩
    obtain ⟨b, off, u, rfl, hbB, hu, hcell⟩ := hr.at_ (k := q) (by omega)
    obtain ⟨x, hx, rfl⟩ := u8_at hu
    have hin : (0 : Int) < ((q + 1 : Nat) : Int) := by omega
    have h2 : IntKind.i64.wrap (((q + 1 : Nat) : Int) - 1) = (q : Int) := by have := IntWalk.i64_in (((q + 1 : Nat) : Int) - 1) (by omega); rw [this]; omega
    have h4 : (0 : Int) ≤ (q : Int) := by omega
    have h5 : (q : Int) < (n : Int) := by omega
    by_cases hx0 : x = 0
    · have hx0f : ((x : Int) == 0) = true := by subst hx0; rfl
      obtain ⟨f, rfl⟩ : ∃ f, gk = f + 1 := ⟨gk - 1, by omega⟩
      have HX := Lib.hid (show ∀ j, q ≤ j → j < n → l[j]? = some 0 from fun j h1 h2 => by
       by_cases hj : j = q
       · rw [hj, hx, hx0]
       · exact hz j (by omega) h2)
      clear hx hu hz hx0
      go_wp2_with fail
      go_roundg f
      case measure => omega
      case rel => exact ⟨q, by go_num, by omega, by omega, rfl, HX.out⟩
    · have hx0f : ((x : Int) == 0) = false := by simp; omega
      have HX := Lib.hid (show Trimmed l n (q + 1) from ⟨hm, .inr ⟨x, hx, hx0⟩, hz⟩)
      clear hx0 hx hu hz
      go_wp2_with fail
      go_ret
      exact ⟨⟨q + 1, HX.out, rfl⟩, rfl⟩
theorem ref03of_any (s T : ByteArray) (g : Bool) (hp : ReadPre s T g) (w : World) : Calls Tryz.prog 40 #[.string s] w fun x w' => (∃ A m c, Trimmed (ldig T) T.size m ∧ m ≤ c ∧ Reads w' w'.heap.size A m (u8s ((ldig T).take m)) ∧ x = .returned (.agg #[.bool g, .slice A m c])) ∧ Below w.heap.size w w' := by
 obtain ⟨i0, hi, hz0, hz1, hz2⟩ := info_parts info5
 have HP := Lib.hid hp
 have hss := hp.size
 have hTl := hp.le
 have hTp := hp.pos
 obtain ⟨X, hX⟩ : ∃ X, w.heap.size = X := ⟨_, rfl⟩
 obtain ⟨w1, hw1⟩ : ∃ w1 : World, (w.alloc (.cells #[.bool false, .slice none 0 0] 33)).alloc (.cells #[.bool false, .slice none 0 0] 33) = w1 := ⟨_, rfl⟩
 have hb1 : Below X w w1 := by rw [← hw1, ← hX]; exact ((Below.refl _ _).alloc (Nat.le_refl _) _).alloc (by simp) _
 have hX1 : w1.heap[X]? = some (.cells #[.bool false, .slice none 0 0] 33 (0, 0)) := by
  rw [← hw1, ← hX]; exact (Below.heap_alloc _ _ _ (by simp)).trans (heap_alloc_new w _)
 have hY1 : w1.heap[X + 1]? = some (.cells #[.bool false, .slice none 0 0] 33 (0, 0)) := by
  rw [← hw1, ← hX]
  have := heap_alloc_new (w.alloc (.cells #[.bool false, .slice none 0 0] 33)) (.cells #[.bool false, .slice none 0 0] 33)
  simpa using this
 have hsz1 : w1.heap.size = X + 2 := by rw [← hw1, ← hX]; simp
 have HX := Lib.hid hX
 have HW1 := Lib.hid hw1
 have w0 : IntKind.i64.wrap ((s.size : Int) - 1) = (s.size : Int) - 1 := IntWalk.i64_in _ (by split at hss <;> omega)
 have hs1 : 1 ≤ s.size := by split at hss <;> omega
 have hs2 : s.size ≤ 401 := by split at hss <;> omega
 have HSS := Lib.hid hss
 clear hw1 hp hss
 go_enter Tryz.func40, Tryz.ntmps40
 go_upto_block 0 with fail
 rw [HW1.out]
 go_wp2_with fail
 go_loopg [4] s.size (fun f t4 wx => ∃ (j : Nat) (v : Value) (ng : Bool), t4 = .int .i64 ((f : Int) - 1) ∧ f ≤ s.size ∧ ((ng = false ∧ j + f = s.size ∧ j ≤ T.size) ∨ (ng = true ∧ g = true ∧ j = T.size ∧ f = 0)) ∧ wx.heap[X]? = some (.cells #[.bool false, .slice none 0 0] 33 (0, 0)) ∧ wx.heap[X + 1]? = some (.cells #[.bool ng, v] 33 (0, 0)) ∧ wx.ownsRow (X + 2) 5 1 v j (u8s ((ldig T).take j)) ∧ X + 2 ≤ wx.heap.size ∧ Below X w wx)
 case atStart => exact ⟨0, .slice none 0 0, false, rfl, Nat.le_refl _, .inl ⟨rfl, by omega, by omega⟩, hX1, hY1, World.ownsRow_nil _ _ _ _, by omega, hb1⟩
 case round =>
  obtain ⟨j, v, ng, rfl, hfs, hcase, hXx, hYx, hown, hsx, hbx⟩ := hrel
  have HXx := Lib.hid hXx
  have HYx := Lib.hid hYx
  have y0 := at_block hYx 0 _ rfl
  have y1 := at_block hYx 1 _ rfl
  have fy0 := free_block hYx 0
  have fy1 := free_block hYx 1
  have HSZ := HSS.out
  cases gk with
  | zero =>
    have hfin : ng = g ∧ j = T.size := by
     rcases hcase with ⟨h1, h2, h3⟩ | ⟨h1, h2, h3, _⟩
     · refine ⟨?_, ?_⟩
       · cases g with
         | false => exact h1
         | true => simp at HSZ; omega
       · split at HSZ <;> omega
     · exact ⟨by rw [h1, h2], h3⟩
    obtain ⟨rfl, rfl⟩ := hfin
    have c1 : decide ((0 : Int) ≤ ((0 : Nat) : Int) - 1) = false := by decide
    have c1b : decide ((0 : Int) ≤ -1) = false := by decide
    obtain ⟨A, cp, hv, hcp, hrd⟩ := own_slice hown
    have hld : (ldig T).length = T.size := by rw [ldig, List.length_reverse, List.length_map, ba_size]
    rw [List.take_of_length_le (Nat.le_of_eq hld)] at hrd hown
    subst hv
    have TR := Lib.hid (trim85_any A T.size cp (ldig T) wr hrd hcp (by omega))
    have HRD := Lib.hid (And.intro hrd hown)
    have x0 := at_block hXx 0 _ rfl
    have x1 := at_block hXx 1 _ rfl
    have fx0 := free_block hXx 0
    have fx1 := free_block hXx 1
    clear hXx hYx hrd hown hcase HSZ hld
    go_wp2_with fail
    refine (TR.out).mono ?_
    rintro x w7 ⟨⟨m, hm, rfl⟩, rfl⟩
    have HM := Lib.hid hm
    have hmle := hm.1
    clear hm
    go_wp2_with fail
    refine bodyPost_ret (v := .agg #[.bool ng, .slice A m cp]) (by simp [results, Tryz.results40, go_sem, x0, x1]) rfl ?_
    refine ⟨⟨A, m, cp, HM.out, by omega, ?_, rfl⟩, ?_⟩
    · have h1 := own_heap (w' := ((w7.setCell ⟨X + 1, 1, none⟩ (.slice A m cp)).setCell ⟨X, 0, none⟩ (.bool ng)).setCell ⟨X, 1, none⟩ (.slice A m cp)) HRD.out.2 (fun k hk1 _ => by
       rw [Below.heap_setCell _ _ _ _ (show k ≠ X by omega), Below.heap_setCell _ _ _ _ (show k ≠ X by omega), Below.heap_setCell _ _ _ _ (show k ≠ X + 1 by omega)])
      have h3 := (Reads.of_own h1).take m HM.out.1
      have e : (u8s (ldig T)).take m = u8s ((ldig T).take m) := by simp [u8s, List.map_take]
      rw [e] at h3
      exact h3
    · try rw [HX.out]
      exact ((hbx.setCell (p := ⟨X + 1, 1, none⟩) (by show X ≤ X + 1; omega) _).setCell (p := ⟨X, 0, none⟩) (Nat.le_refl _) _).setCell (p := ⟨X, 1, none⟩) (Nat.le_refl _) _
  | succ f =>
    have e8 : (((f + 1 : Nat) : Int) - 1) = (f : Int) := by omega
    rw [e8]
    rcases hcase with ⟨rfl, hjf, hjT⟩ | ⟨_, _, _, h0⟩
    · have c1 : decide ((0 : Int) ≤ (f : Int)) = true := decide_eq_true (by omega)
      have hf0 : (0 : Int) ≤ (f : Int) := by omega
      have hfi : (f : Int) < (s.size : Int) := by omega
      have hfn : f < s.size := by omega
      have g8 : IntKind.i64.wrap ((f : Int) - 1) = (f : Int) - 1 := IntWalk.i64_in _ (by omega)
      obtain ⟨d8, hd8⟩ : ∃ d : UInt8, s[f]'hfn = d := ⟨_, rfl⟩
      by_cases hjl : j < T.size
      · obtain ⟨hi2, a1, a2, a3⟩ := HP.out.at_ j hjl
        have hidx : s.size - 1 - j = f := by omega
        have hsf : s[s.size - 1 - j]'hi2 = d8 := by
         rw [← hd8]
         congr 1
        rw [hsf] at a1 a2 a3
        have d1 : ((d8.toNat : Int) == 45) = false := by rw [beq_eq_false_iff_ne]; omega
        have g6 : IntKind.u8.wrap ((d8.toNat : Int) - 48) = ((d8.toNat - 48 : Nat) : Int) := by rw [IntKind.wrap_u8]; omega
        obtain ⟨x, hx⟩ : ∃ x, d8.toNat - 48 = x := ⟨_, rfl⟩
        rw [hx] at a1 g6
        have HA1 := Lib.hid a1
        obtain ⟨V, hV⟩ : ∃ V, u8s ((ldig T).take j) = V := ⟨_, rfl⟩
        rw [hV] at hown
        have HV := Lib.hid hV
        have hsx2 := hsx
        clear hXx hYx HSZ a1 a2 a3 hx hV hsf hi2 hidx
        go_wp2_with fail
        have ya : ∀ o, (wr.alloc o).cell? ⟨X + 1, 1, none⟩ = some v := fun o => (World.cell?_alloc_lt wr o ⟨X + 1, 1, none⟩ (by show X + 1 < _; omega)).trans y1
        go_region_law
         ((refine step_append_any _ (by rfl) _ _ _ (by rfl) (X + 2) 5 i0 _ 1 Tryz.underlying31 hi hz0 hz1 hz2 rfl v j V (by rfl) ((hown.alloc _).drew)
            _ (some ⟨wr.heap.size, 0, none⟩) 1 1 [.int .u8 (x : Int)] (by rfl) (Reads.of_block (cs := [.int .u8 (x : Int)]) (t := 5) (fr := (0, 0)) (heap_alloc_new wr _)) (by simp [Value.oneCell'])
            (by unfold maxLen; omega) (by omega) (by simp; omega) ?_; intro v' w3 hown3 hgr3; obtain ⟨A', c', rfl⟩ := own_form hown3; have hb3' : Below (X + 2) wr w3 := (((Below.refl _ _).alloc hsx2 _).drew).grown hgr3 (by simp; omega) (fun k hk => (hown.lt k hk).1); have hY3 := (hb3'.block (X + 1) (by omega)).trans HYx.out; have z1 := at_block hY3 1 _ rfl; have g1 := free_block hY3 1; have HY3 := Lib.hid hY3; clear hY3))
        all_goals
         go_wp2_with fail
         go_roundg f
         case measure => omega
         case rel =>
          refine ⟨j + 1, .slice A' (j + 1) c', false, rfl, by omega, .inl ⟨rfl, by omega, by omega⟩, ?_, ?_, ?_, ?_, ?_⟩
          · rw [Below.heap_setCell _ _ _ _ (by show X ≠ X + 1; omega)]
            exact (hb3'.block X (by omega)).trans HXx.out
          · exact block_set HY3.out 1 _
          · have e : u8s ((ldig T).take (j + 1)) = V ++ [.int .u8 (x : Int)] := by
             rw [List.take_add_one, HA1.out, ← HV.out]
             simp [u8s]
            rw [e]
            exact own_heap hown3 (fun k hk1 _ => Below.heap_setCell _ _ _ _ (show k ≠ X + 1 by omega))
          · show _ ≤ (World.setCell _ _ _).heap.size
            simp [World.setCell]; exact Nat.le_trans hsx2 hb3'.size
          · exact (hbx.trans (hb3'.mono (by omega))).setCell (p := ⟨X + 1, 1, none⟩) (by show X ≤ X + 1; omega) _
      · have hg : g = true := by
         cases g with
         | true => rfl
         | false => simp at HSZ; omega
        subst hg
        simp at HSZ
        obtain rfl : f = 0 := by omega
        have h45 := HP.out.minus hfn
        rw [hd8] at h45
        have d1 : ((d8.toNat : Int) == 45) = true := by rw [h45]; rfl
        obtain rfl : j = T.size := by omega
        have HOW := Lib.hid hown
        obtain ⟨A, cp, rfl⟩ := own_form hown
        clear hXx hYx hown h45 HSZ hjf
        go_wp2_with fail
        go_roundg 0
        case measure => omega
        case rel =>
         refine ⟨T.size, .slice A T.size cp, true, rfl, by omega, .inr ⟨rfl, by simp, rfl, rfl⟩, ?_, ?_, ?_, ?_, ?_⟩
         · rw [Below.heap_setCell _ _ _ _ (show X ≠ X + 1 by omega)]; exact HXx.out
         · exact block_set HYx.out 0 _
         · exact own_heap HOW.out (fun k hk1 _ => by rw [Below.heap_setCell _ _ _ _ (show k ≠ X + 1 by omega)])
         · simp [World.setCell]; omega
         · exact hbx.setCell (p := ⟨X + 1, 0, none⟩) (by show X ≤ X + 1; omega) _
    · omega
end Go.Proofs.YtjapgpmoojfhnaaGreatDoor
