/- law03's Text: a canonical integer text of at most 400 digits. integer's trim and read at canonical texts. integer's short: a list of digits divided by 256. integer's Valid and Magnitude at canonical texts. binary.Of: the bytes of a magnitude gathered. -/
import Derived.Test.YtjapgpmoojfhnaaGreatDoorB11
namespace Go.Proofs.YtjapgpmoojfhnaaGreatDoor
open Go.RowKit Go.Lib

/-- Digits that Text has gathered. -/
def GoodT (l : List Nat) : Prop := (∀ x ∈ l, 48 ≤ x ∧ x ≤ 57) ∧ l.head? ≠ some 48
theorem GoodT.nil : GoodT [] := ⟨by simp, by simp⟩
theorem GoodT.snoc {l : List Nat} (h : GoodT l) {d : Nat} (h1 : 48 ≤ d) (h2 : d ≤ 57) (h3 : d = 48 → l ≠ []) : GoodT (l ++ [d]) := by
  refine ⟨fun x hx => ?_, ?_⟩
  · rw [List.mem_append] at hx
    rcases hx with hx | hx
    · exact h.1 x hx
    · rw [List.mem_singleton.1 hx]; exact ⟨h1, h2⟩
  · cases l with
    | nil =>
      intro he
      have : d = 48 := by simpa using he
      exact h3 this rfl
    | cons c l => exact h.2
theorem GoodT.take {l : List Nat} (h : GoodT l) (k : Nat) (hk : 0 < k) : GoodT (l.take k) := by
  refine ⟨fun x hx => h.1 x (List.mem_of_mem_take hx), ?_⟩
  rw [List.head?_take, if_neg (by omega)]
  exact h.2
/-- What Text holds between its loops. -/
def HeldT (X : Nat) (g : Bool) (D : ByteArray) (n : Nat) (w : World) (N : Nat) (v : Value) (wx : World) : Prop :=
  ∃ acc : List Nat, GoodT acc ∧ acc.length ≤ N ∧ wx.heap[X]? = some (.cells #[.bool g, .string D, .int .u16 (n : Int)] 72 (0, 0)) ∧ wx.ownsRow (X + 1) 5 1 v acc.length (u8s acc) ∧ X + 1 ≤ wx.heap.size ∧ Below X w wx
theorem u8s_snoc (acc : List Nat) (d : Nat) : u8s (acc ++ [d]) = u8s acc ++ [.int .u8 (d : Int)] := by simp [u8s]
theorem HeldT.mono {X : Nat} {g : Bool} {D : ByteArray} {n : Nat} {w : World} {N M : Nat} {v : Value} {wx : World} (h : HeldT X g D n w N v wx) (hm : N ≤ M) : HeldT X g D n w M v wx := by
  obtain ⟨acc, h1, h2, h3⟩ := h
  exact ⟨acc, h1, by omega, h3⟩
set_option maxHeartbeats 4000000 in
set_option maxRecDepth 100000 in
theorem text03_any (g : Bool) (D : ByteArray) (n : Nat) (hn : n < 65536) (w : World) : Calls Tryz.prog 37 #[.agg #[.bool g, .string D, .int .u16 (n : Int)]] w fun x w' => ∃ T : List Nat, GoodT T ∧ T.length ≤ 400 ∧ x = .returned (.string (if T = [] then ⟨#[48]⟩ else if g = true then ⟨((45 :: T.map UInt8.ofNat) : List UInt8).toArray⟩ else ⟨(T.map UInt8.ofNat).toArray⟩)) ∧ Below w.heap.size w w' := by
  obtain ⟨i0, hi, hz0, hz1, hz2⟩ := info_parts info5
  obtain ⟨q, hq⟩ : ∃ q, n % 450 = q := ⟨_, rfl⟩
  have hq4 : q < 450 := by omega
  have q1 : Int.tmod (n : Int) 450 = (q : Int) := by rw [Int.tmod_eq_emod_of_nonneg (by omega)]; omega
  have q2 : (n : Int) % 450 = (q : Int) := by omega
  have q3 : IntKind.u16.wrap (q : Int) = (q : Int) := by rw [IntKind.wrap_u16]; omega
  have q4 : IntKind.i64.wrap (q : Int) = (q : Int) := IntWalk.i64_in _ (by omega)
  clear hq hn
  go_enter Tryz.func37, Tryz.ntmps37
  go_upto_block 0 with fail
  obtain ⟨X, hX⟩ : ∃ X, w.heap.size = X := ⟨_, rfl⟩
  obtain ⟨w2, hw2⟩ : ∃ w2, w.alloc (.cells #[.bool g, .string D, .int .u16 (n : Int)] 72) = w2 := ⟨_, rfl⟩
  have hXc := heap_alloc_new w (.cells #[.bool g, .string D, .int .u16 (n : Int)] 72)
  have hb2 : Below X w w2 := by rw [← hw2, ← hX]; exact (Below.refl _ _).alloc (Nat.le_refl _) _
  have hs2 : w2.heap.size = X + 1 := by rw [← hw2, ← hX]; simp
  rw [hw2, hX] at hXc
  rw [hw2, hX]
  have HX := Lib.hid hX
  clear hw2 hX
  go_cut [3, 4] (fun t3 t4 wx => HeldT X g D n w 450 t3 wx)
  case first =>
    go_wp2_with fail
    go_loopg [3, 4] 450 (fun f t3 t4 wx => ∃ k : Nat, t4 = .int .i64 (k : Int) ∧ k + f = 450 ∧ HeldT X g D n w k t3 wx)
    case atStart => exact ⟨0, rfl, rfl, [], GoodT.nil, by simp, hXc, World.ownsRow_nil _ _ _ _, by omega, hb2⟩
    case round =>
      obtain ⟨k, rfl, hk, hH⟩ := hrel
      have hH2 := hH
      obtain ⟨acc, hG, hal, hA, hown, hsz, hbx⟩ := hH2
      obtain ⟨A, cp, rfl⟩ := own_form hown
      have HG := Lib.hid (And.intro hG hal)
      have z1 := at_block hA 1 _ rfl
      by_cases hkD : k < D.size
      · have n1 : decide (k < D.size) = true := decide_eq_true hkD
        by_cases hk4 : k < 450
        · obtain ⟨f, rfl⟩ : ∃ f, gk = f + 1 := ⟨gk - 1, by omega⟩
          have n2 : decide (k < 450) = true := decide_eq_true hk4
          have n2b : decide ((k : Int) < 450) = true := decide_eq_true (by omega)
          obtain ⟨d, hd⟩ : ∃ d : UInt8, D[k]'hkD = d := ⟨_, rfl⟩
          have hk0 : (0 : Int) ≤ (k : Int) := by omega
          have hki : (k : Int) < D.size := by omega
          have k1 : IntKind.i64.wrap ((k : Int) + 1) = ((k + 1 : Nat) : Int) := by have := IntWalk.i64_in ((k : Int) + 1) (by omega); rw [this]; omega
          by_cases hgood : 48 ≤ d.toNat ∧ d.toNat ≤ 57 ∧ (d.toNat = 48 → acc ≠ [])
          · obtain ⟨g1, g2, g3⟩ := hgood
            have c1 : decide (48 ≤ d.toNat) = true := decide_eq_true g1
            have c1b : decide ((48 : Int) ≤ (d.toNat : Int)) = true := decide_eq_true (by omega)
            have c2 : decide (d.toNat ≤ 57) = true := decide_eq_true g2
            have c2b : decide ((d.toNat : Int) ≤ 57) = true := decide_eq_true (by omega)
            obtain ⟨bz, hbz⟩ : ∃ bz, ((d.toNat : Int) == 48) = bz := ⟨_, rfl⟩
            obtain ⟨m, hm⟩ : ∃ m, acc.length = m := ⟨_, rfl⟩
            have hm0 : bz = true → 0 < m := fun h => by
              rw [← hm]
              rw [h] at hbz
              have := eq_of_beq hbz
              exact List.length_pos_iff.2 (g3 (by omega))
            have hG2 : GoodT (acc ++ [d.toNat]) := HG.out.1.snoc g1 g2 g3
            have hal2 : (acc ++ [d.toNat]).length ≤ k + 1 := by rw [List.length_append]; simp; omega
            rw [hm] at hown hal
            rw [hm]
            have HA := Lib.hid hA
            have HM := Lib.hid hm
            have HG2 := Lib.hid (And.intro hG2 hal2)
            have HBX := Lib.hid hbx
            clear hA hH hG hG2 hal2 hm g3 hbx
            have fin : ∀ (v' : Value) (w3 : World), w3.ownsRow (X + 1) 5 1 v' (m + 1) (u8s acc ++ [.int .u8 (d.toNat : Int)]) → Below (X + 1) wr w3 → HeldT X g D n w (k + 1) v' w3 := fun v' w3 ho hb => by
              refine ⟨acc ++ [d.toNat], HG2.out.1, HG2.out.2, (hb.block X (by omega)).trans HA.out, ?_, by have := hb.size; omega, HBX.out.trans (hb.mono (by omega))⟩
              rw [u8s_snoc, List.length_append, HM.out]
              exact ho
            have FIN := Lib.hid fin
            clear fin
            cases bz with
            | true =>
              have hm1 := hm0 rfl
              obtain rfl : d = 48 := UInt8.toNat_inj.1 (by have := eq_of_beq hbz; show d.toNat = 48; omega)
              have c3 : decide (0 < m) = true := decide_eq_true hm1
              have c3b : decide ((0 : Int) < (m : Int)) = true := decide_eq_true (by omega)
              clear hm0
              go_wp2_with (at_builtin; refine wpList_append_own _ rfl _ _ 31 rfl (X + 1) 5 i0 (.int .u8 0) 1 1 Tryz.underlying31 hi hz0 hz1 hz2 rfl (by decide) _ _ _ rfl (hown.alloc _) ⟨wr.heap.size, 0, none⟩ 1 1 [.int .u8 (48 : Int)] rfl rfl ?c1 ?c2 ?c3 ?c4 ?c5 ?_)
              case c1 =>
                intro j u' hj
                match j, hj with
                | 0, hj => simp at hj; subst hj; simp [Addr.add]
              case c2 => intro u' hu'; simp at hu'; subst hu'; rfl
              case c3 => unfold maxLen; omega
              case c4 => omega
              case c5 => simp; omega
              intro v' w3 hown3 hgr3 _
              have hb3 : Below (X + 1) wr w3 := ((Below.refl _ _).alloc (by omega) _).grown hgr3 (by simp; omega) (fun k hk => (hown.lt k hk).1)
              have H3 := Lib.hid (FIN.out _ _ hown3 hb3)
              clear hgr3 hown hown3 hb3 z1
              go_wp2_with fail
              go_roundg f
              case measure => omega
              case rel => exact ⟨k + 1, rfl, by omega, H3.out⟩
            | false =>
              have hbn : ((d.toNat : Int) != 48) = true := by rw [bne, hbz]; rfl
              clear hm0
              go_wp2_with (at_builtin; refine wpList_append_own _ rfl _ _ 31 rfl (X + 1) 5 i0 (.int .u8 0) 1 1 Tryz.underlying31 hi hz0 hz1 hz2 rfl (by decide) _ _ _ rfl (hown.alloc _) ⟨wr.heap.size, 0, none⟩ 1 1 [.int .u8 (d.toNat : Int)] rfl rfl ?c1 ?c2 ?c3 ?c4 ?c5 ?_)
              case c1 =>
                intro j u' hj
                match j, hj with
                | 0, hj => simp at hj; subst hj; simp [Addr.add]
              case c2 => intro u' hu'; simp at hu'; subst hu'; rfl
              case c3 => unfold maxLen; omega
              case c4 => omega
              case c5 => simp; omega
              intro v' w3 hown3 hgr3 _
              have hb3 : Below (X + 1) wr w3 := ((Below.refl _ _).alloc (by omega) _).grown hgr3 (by simp; omega) (fun k hk => (hown.lt k hk).1)
              have H3 := Lib.hid (FIN.out _ _ hown3 hb3)
              clear hgr3 hown hown3 hb3 z1
              go_wp2_with fail
              go_roundg f
              case measure => omega
              case rel => exact ⟨k + 1, rfl, by omega, H3.out⟩
          · have hcase : d.toNat < 48 ∨ 57 < d.toNat ∨ (d.toNat = 48 ∧ acc = []) := by
              by_cases a1 : d.toNat < 48
              · exact .inl a1
              · by_cases a2 : 57 < d.toNat
                · exact .inr (.inl a2)
                · refine .inr (.inr ?_)
                  by_cases a3 : d.toNat = 48
                  · refine ⟨a3, ?_⟩
                    by_cases a4 : acc = []
                    · exact a4
                    · exact absurd ⟨by omega, by omega, fun _ => a4⟩ hgood
                  · exact absurd ⟨by omega, by omega, fun h => absurd h a3⟩ hgood
            obtain ⟨m, hm⟩ : ∃ m, acc.length = m := ⟨_, rfl⟩
            rw [hm] at hown hH
            have HH := Lib.hid (hH.mono (Nat.le_succ k))
            have hcase2 : d.toNat < 48 ∨ 57 < d.toNat ∨ (d.toNat = 48 ∧ m = 0) := by
              rcases hcase with h | h | ⟨h1, h2⟩
              · exact .inl h
              · exact .inr (.inl h)
              · exact .inr (.inr ⟨h1, by rw [← hm, h2]; rfl⟩)
            rw [hm]
            clear hH hA hown hsz hbx hgood hcase hm hG hal
            rcases hcase2 with h | h | ⟨h, rfl⟩
            · have c1 : decide (48 ≤ d.toNat) = false := decide_eq_false (by omega)
              have c1b : decide ((48 : Int) ≤ (d.toNat : Int)) = false := decide_eq_false (by omega)
              clear h
              go_wp2_with fail
              go_roundg f
              case measure => omega
              case rel => exact ⟨k + 1, rfl, by omega, HH.out⟩
            · have c1 : decide (48 ≤ d.toNat) = true := decide_eq_true (by omega)
              have c1b : decide ((48 : Int) ≤ (d.toNat : Int)) = true := decide_eq_true (by omega)
              have c2 : decide (d.toNat ≤ 57) = false := decide_eq_false (by omega)
              have c2b : decide ((d.toNat : Int) ≤ 57) = false := decide_eq_false (by omega)
              clear h
              go_wp2_with fail
              go_roundg f
              case measure => omega
              case rel => exact ⟨k + 1, rfl, by omega, HH.out⟩
            · have hd48 : d = 48 := UInt8.toNat_inj.1 h
              subst hd48
              clear h
              go_wp2_with fail
              go_roundg f
              case measure => omega
              case rel => exact ⟨k + 1, rfl, by omega, HH.out⟩
        · have n2 : decide (k < 450) = false := decide_eq_false hk4
          have n2b : decide ((k : Int) < 450) = false := decide_eq_false (by omega)
          have HH := Lib.hid (hH.mono (show k ≤ 450 by omega))
          clear hH hA hown hsz hbx
          go_wp2_with fail
          go_meet
          exact HH.out
      · have n1 : decide (k < D.size) = false := decide_eq_false hkD
        have HH := Lib.hid (hH.mono (show k ≤ 450 by omega))
        clear hH hA hown hsz hbx
        go_wp2_with fail
        go_meet
        exact HH.out
  case rest =>
    obtain ⟨acc, hG, hal, hA, hown, hsz, hbx⟩ := hcut
    have z2 := at_block hA 2 _ rfl
    have H0 := Lib.hid (show HeldT X g D n w 450 _ wc from ⟨acc, hG, hal, hA, hown, hsz, hbx⟩)
    clear hG hal hA hown hsz hbx
    go_wp2_with fail
    clear z2
    go_loopg [3, 51] q (fun f t3 t51 wx => ∃ k : Nat, t51 = .int .i64 (k : Int) ∧ k + f = q ∧ HeldT X g D n w (450 + k) t3 wx)
    case atStart => exact ⟨0, rfl, by omega, H0.out⟩
    case round =>
      obtain ⟨k, rfl, hk, acc, hG, hal, hA, hown, hsz, hbx⟩ := hrel
      obtain ⟨A, cp, rfl⟩ := own_form hown
      by_cases hkq : k < q
      · obtain ⟨f, rfl⟩ : ∃ f, gk = f + 1 := ⟨gk - 1, by omega⟩
        have n1 : decide (k < q) = true := decide_eq_true hkq
        have n1b : decide ((k : Int) < (q : Int)) = true := decide_eq_true (by omega)
        have k1 : IntKind.i64.wrap ((k : Int) + 1) = ((k + 1 : Nat) : Int) := by have := IntWalk.i64_in ((k : Int) + 1) (by omega); rw [this]; omega
        obtain ⟨m, hm⟩ : ∃ m, acc.length = m := ⟨_, rfl⟩
        have hG2 : GoodT (acc ++ [57]) := hG.snoc (by omega) (by omega) (by omega)
        have hal2 : (acc ++ [57]).length ≤ 450 + (k + 1) := by rw [List.length_append]; simp; omega
        rw [hm] at hown hal
        rw [hm]
        have HA := Lib.hid hA
        have HM := Lib.hid hm
        have HG2 := Lib.hid (And.intro hG2 hal2)
        have HBX := Lib.hid hbx
        clear hA hG hG2 hal2 hm hbx
        have fin : ∀ (v' : Value) (w3 : World), w3.ownsRow (X + 1) 5 1 v' (m + 1) (u8s acc ++ [.int .u8 57]) → Below (X + 1) wr w3 → HeldT X g D n w (450 + (k + 1)) v' w3 := fun v' w3 ho hb => by
          refine ⟨acc ++ [57], HG2.out.1, HG2.out.2, (hb.block X (by omega)).trans HA.out, ?_, by have := hb.size; omega, HBX.out.trans (hb.mono (by omega))⟩
          rw [u8s_snoc, List.length_append, HM.out]
          exact ho
        have FIN := Lib.hid fin
        clear fin H0
        go_wp2_with (at_builtin; refine wpList_append_own _ rfl _ _ 31 rfl (X + 1) 5 i0 (.int .u8 0) 1 1 Tryz.underlying31 hi hz0 hz1 hz2 rfl (by decide) _ _ _ rfl (hown.alloc _) ⟨wr.heap.size, 0, none⟩ 1 1 [.int .u8 57] rfl rfl ?c1 ?c2 ?c3 ?c4 ?c5 ?_)
        case c1 =>
          intro j u' hj
          match j, hj with
          | 0, hj => simp at hj; subst hj; simp [Addr.add]
        case c2 => intro u' hu'; simp at hu'; subst hu'; rfl
        case c3 => unfold maxLen; omega
        case c4 => omega
        case c5 => simp; omega
        intro v' w3 hown3 hgr3 _
        have hb3 : Below (X + 1) wr w3 := ((Below.refl _ _).alloc (by omega) _).grown hgr3 (by simp; omega) (fun k hk => (hown.lt k hk).1)
        have H3 := Lib.hid (FIN.out _ _ hown3 hb3)
        clear hgr3 hown hown3 hb3
        go_wp2_with fail
        go_roundg f
        case measure => omega
        case rel => exact ⟨k + 1, rfl, by omega, H3.out⟩
      · have n1 : decide (k < q) = false := decide_eq_false hkq
        have n1b : decide ((k : Int) < (q : Int)) = false := decide_eq_false (by omega)
        obtain ⟨A', c', hv, hnc, hr⟩ := own_slice hown
        injection hv with h2 _ h3
        subst h2
        subst h3
        obtain ⟨m, hm⟩ : ∃ m, acc.length = m := ⟨_, rfl⟩
        have z0 := at_block hA 0 _ rfl
        have HBX := Lib.hid hbx
        rw [hm] at hown hr hnc
        rw [hm]
        clear hbx
        by_cases hm0 : m = 0
        · subst hm0
          clear hown hr hA hG hal hkq H0 hm hnc
          cases g
          all_goals
            go_wp2_with fail
            refine bodyPost_ret (v := .string ⟨#[48]⟩) (by simp [results, Tryz.results37, go_sem]) rfl ?_
            rw [HX.out]
            exact ⟨[], GoodT.nil, by simp, rfl, HBX.out⟩
        · obtain ⟨b, off, _, rfl, _, _, _⟩ := hr.at_ (k := 0) (by omega)
          by_cases hm4 : 400 < m
          · have n3 : decide (400 < m) = true := decide_eq_true hm4
            have n3b : decide ((400 : Int) < (m : Int)) = true := decide_eq_true (by omega)
            have n4 : (400 : Int) ≤ (cp : Int) := by omega
            have n5 : 400 ≤ cp := by omega
            obtain ⟨T, hTe⟩ : ∃ T, acc.take 400 = T := ⟨_, rfl⟩
            have hr4 := hr.take 400 (by omega)
            have hTr : (u8s acc).take 400 = u8s T := by rw [← hTe]; simp [u8s, List.map_take]
            rw [hTr] at hr4
            have hcv := conv_bytes (c := cp) hr4 (fun h => by omega)
            have hGT : GoodT T := by rw [← hTe]; exact hG.take 400 (by omega)
            have hTl : T.length ≤ 400 := by rw [← hTe, List.length_take]; omega
            have hTn : T ≠ [] := fun h => by rw [h] at hTe; have := congrArg List.length hTe; rw [List.length_take, List.length_nil] at this; omega
            clear hTe hr4 hTr hm hm4 hnc
            obtain ⟨S, hS⟩ : ∃ S : ByteArray, (⟨(T.map UInt8.ofNat).toArray⟩ : ByteArray) = S := ⟨_, rfl⟩
            have hSs : S.size ≤ 1000 := by rw [← hS]; show ((T.map UInt8.ofNat)).length ≤ 1000; rw [List.length_map]; omega
            rw [hS] at hcv
            have hadd := fun W => run_string_add_sum (P := Tryz.prog) (w := W) ⟨#[45]⟩ S (by show 1 + S.size ≤ _; omega)
            have HT := Lib.hid (And.intro hGT (And.intro hTl hTn))
            have HS := Lib.hid hS
            clear hGT hTl hTn hS hSs hown hr hA hG hal hkq H0
            cases g with
            | true =>
              go_wp2_with fail
              refine bodyPost_ret (v := .string (⟨#[45]⟩ ++ S)) (by simp [results, Tryz.results37, go_sem]) rfl ?_
              rw [HX.out]
              refine ⟨T, HT.out.1, HT.out.2.1, ?_, HBX.out⟩
              rw [if_neg HT.out.2.2, ← HS.out]
              congr 2
            | false =>
              go_wp2_with fail
              refine bodyPost_ret (v := .string S) (by simp [results, Tryz.results37, go_sem]) rfl ?_
              rw [HX.out]
              refine ⟨T, HT.out.1, HT.out.2.1, ?_, HBX.out⟩
              rw [if_neg HT.out.2.2, HS.out]
          · have n3 : decide (400 < m) = false := decide_eq_false hm4
            have n3b : decide ((400 : Int) < (m : Int)) = false := decide_eq_false (by omega)
            have n4 : ((m : Int) == 0) = false := by rw [beq_eq_false_iff_ne]; omega
            have n5 : (m == 0) = false := by rw [beq_eq_false_iff_ne]; exact hm0
            obtain ⟨T, hTe⟩ : ∃ T, acc = T := ⟨_, rfl⟩
            rw [hTe] at hr hG hm
            have hcv := conv_bytes (c := cp) hr (fun h => by omega)
            have hGT : GoodT T := hG
            have hTl : T.length ≤ 400 := by omega
            have hTn : T ≠ [] := fun h => by rw [h] at hm; simp at hm; omega
            clear hTe hm hm4 hnc hm0
            obtain ⟨S, hS⟩ : ∃ S : ByteArray, (⟨(T.map UInt8.ofNat).toArray⟩ : ByteArray) = S := ⟨_, rfl⟩
            have hSs : S.size ≤ 1000 := by rw [← hS]; show ((T.map UInt8.ofNat)).length ≤ 1000; rw [List.length_map]; omega
            rw [hS] at hcv
            have hadd := fun W => run_string_add_sum (P := Tryz.prog) (w := W) ⟨#[45]⟩ S (by show 1 + S.size ≤ _; omega)
            have HT := Lib.hid (And.intro hGT (And.intro hTl hTn))
            have HS := Lib.hid hS
            clear hGT hTl hTn hS hSs hown hr hA hG hal hkq H0
            cases g with
            | true =>
              go_wp2_with fail
              refine bodyPost_ret (v := .string (⟨#[45]⟩ ++ S)) (by simp [results, Tryz.results37, go_sem]) rfl ?_
              rw [HX.out]
              refine ⟨T, HT.out.1, HT.out.2.1, ?_, HBX.out⟩
              rw [if_neg HT.out.2.2, ← HS.out]
              congr 2
            | false =>
              go_wp2_with fail
              refine bodyPost_ret (v := .string S) (by simp [results, Tryz.results37, go_sem]) rfl ?_
              rw [HX.out]
              refine ⟨T, HT.out.1, HT.out.2.1, ?_, HBX.out⟩
              rw [if_neg HT.out.2.2, HS.out]
end Go.Proofs.YtjapgpmoojfhnaaGreatDoor

namespace Go.Proofs.YtjapgpmoojfhnaaGreatDoor
open Go.RowKit Go.Lib

/-- The digits that are left where the leading noughts (the last in the list) are taken off. -/
def Trimmed (l : List Nat) (n m : Nat) : Prop := m ≤ n ∧ (m = 0 ∨ ∃ d, l[m - 1]? = some d ∧ d ≠ 0) ∧ ∀ j, m ≤ j → j < n → l[j]? = some 0
theorem u8s_set (l : List Nat) (q x : Nat) : (u8s (l.set q x)).toArray = (u8s l).toArray.setIfInBounds q (.int .u8 (x : Int)) := by
  rw [u8s, u8s, List.setIfInBounds_toArray, List.map_set]
/-- What integer.read wants of a text that it takes. -/
structure ReadPre (s T : ByteArray) (g : Bool) : Prop where
  len : g = true → 1 < s.size
  head : ∀ h : 1 < s.size, (((s[0]'(by omega)).toNat : Int) == 45) = g
  cut : g = true → s.extract 1 s.size = T
  whole : g = false → s = T
  pos : 0 < T.size
  le : T.size ≤ 400
  digs : ∀ k (h : k < T.size), 48 ≤ (T[k]'h).toNat ∧ (T[k]'h).toNat ≤ 57
  one : ∀ h : 0 < T.size, (((T[0]'h).toNat : Int) == 48) = true → ¬ 1 < s.size
/-- A text's digits, least significant first. -/
def ldig (T : ByteArray) : List Nat := (T.data.toList.map fun b => b.toNat - 48).reverse
end Go.Proofs.YtjapgpmoojfhnaaGreatDoor

namespace Go.Proofs.YtjapgpmoojfhnaaGreatDoor
open Go.RowKit Go.Lib

/-- The value of digits, least significant first. -/
def dv : List Nat → Nat
  | [] => 0
  | d :: l => d + 10 * dv l
theorem dv_drop {l : List Nat} {k d : Nat} (h : l[k]? = some d) : dv (l.drop k) = d + 10 * dv (l.drop (k + 1)) := by
  have hk : k < l.length := by
    rcases Nat.lt_or_ge k l.length with h1 | h1
    · exact h1
    · rw [List.getElem?_eq_none h1] at h; cases h
  rw [List.drop_eq_getElem_cons hk]
  have : l[k] = d := by rw [List.getElem?_eq_getElem hk] at h; exact Option.some.inj h
  rw [this]
  rfl
theorem dv_zeros : ∀ (l : List Nat), (∀ x ∈ l, x = 0) → dv l = 0
  | [], _ => rfl
  | d :: l, h => by
    rw [dv, dv_zeros l (fun x hx => h x (by simp [hx])), h d (by simp)]
theorem dv_append : ∀ (a b : List Nat), dv (a ++ b) = dv a + 10 ^ a.length * dv b
  | [], b => by simp [dv]
  | d :: a, b => by
    rw [List.cons_append, dv, dv, dv_append a b, List.length_cons, Nat.pow_succ]
    rw [Nat.mul_add, Nat.mul_comm (10 ^ a.length) 10, Nat.mul_assoc]
    omega
theorem dv_trim {l : List Nat} {m : Nat} (h : Trimmed l l.length m) : dv (l.take m) = dv l := by
  have e : l = l.take m ++ l.drop m := (List.take_append_drop m l).symm
  have hz : dv (l.drop m) = 0 := dv_zeros _ fun x hx => by
    obtain ⟨i, hi⟩ := List.mem_iff_getElem?.1 hx
    rw [List.getElem?_drop] at hi
    have hlt : m + i < l.length := by
      rcases Nat.lt_or_ge (m + i) l.length with h1 | h1
      · exact h1
      · rw [List.getElem?_eq_none h1] at hi; cases hi
    have := h.2.2 (m + i) (by omega) hlt
    rw [this] at hi
    exact (Option.some.inj hi).symm
  have h2 := dv_append (l.take m) (l.drop m)
  rw [← e, hz] at h2
  omega
/-- No nought leads (none is last in the list). -/
def NoLead (l : List Nat) : Prop := l = [] ∨ ∃ d, l[l.length - 1]? = some d ∧ d ≠ 0
theorem noLead_trim {l : List Nat} {m : Nat} (h : Trimmed l l.length m) : NoLead (l.take m) := by
  obtain ⟨h1, h2 | ⟨d, h3, h4⟩, _⟩ := h
  · left; rw [h2]; rfl
  · by_cases hm : m = 0
    · left; rw [hm]; rfl
    · right
      refine ⟨d, ?_, h4⟩
      rw [List.length_take, Nat.min_eq_left h1, List.getElem?_take, if_pos (by omega)]
      exact h3
theorem dv_pos {l : List Nat} (h : NoLead l) (h0 : l ≠ []) : 0 < dv l := by
  rcases h with h | ⟨d, h1, h2⟩
  · exact absurd h h0
  · have hl : 0 < l.length := List.length_pos_iff.2 h0
    have e : l = l.take (l.length - 1) ++ l.drop (l.length - 1) := (List.take_append_drop _ l).symm
    have e2 := dv_append (l.take (l.length - 1)) (l.drop (l.length - 1))
    rw [← e, dv_drop h1] at e2
    have := Nat.mul_pos (Nat.pow_pos (n := (l.take (l.length - 1)).length) (show 0 < 10 by omega)) (show 0 < d + 10 * dv (l.drop (l.length - 1 + 1)) by omega)
    omega
end Go.Proofs.YtjapgpmoojfhnaaGreatDoor

namespace Go.Proofs.YtjapgpmoojfhnaaGreatDoor
open Go.RowKit Go.Lib

/-- Bytes, least significant first. -/
def Fl.byteL (u : Nat) : List Nat := if h : u = 0 then [] else (u % 256) :: Fl.byteL (u / 256)
termination_by u
decreasing_by omega
theorem Reads.setOther {w : World} {B n : Nat} {A : Option Addr} {xs : List Value} (h : Reads w B A n xs) {p : Addr} (hA : ∀ b off, A = some ⟨b, off, none⟩ → b ≠ p.block) (u : Value) : Reads (w.setCell p u) B A n xs := by
  refine ⟨h.1, fun hn => ?_⟩
  obtain ⟨b, off, e, hb, hc⟩ := h.2 hn
  refine ⟨b, off, e, hb, fun j v hv => ?_⟩
  rw [← hc j v hv]
  have := Below.heap_setCell w p u b (hA b off e)
  unfold World.cell?
  simp only [this]
/-- What Magnitude holds from round to round. -/
structure MagHeld (w : World) (Y N L : Nat) (g : Bool) (f : Nat) (A Ao : Option Addr) (m c no : Nat) (wx : World) (V : Nat) (l o : List Nat) : Prop where
  blk : wx.heap[Y]? = some (.cells #[.bool g, .slice A m c] 163 (0, 0))
  rd : Reads wx wx.heap.size A m (u8s l)
  ne : ∀ b off, A = some ⟨b, off, none⟩ → b ≠ Y
  ro : Reads wx wx.heap.size Ao no (u8s o)
  neo : ∀ b off, Ao = some ⟨b, off, none⟩ → b ≠ Y
  mL : m ≤ L
  val : dv l = V
  nine : ∀ x ∈ l, x ≤ 9
  lead : NoLead l
  sum : o.reverse ++ Fl.byteL V = Fl.byteL N
  few : no + f = 200
  small : V < 256 ^ f
  base : w.heap.size ≤ Y
  hi : Y < wx.heap.size
  bel : Below w.heap.size w wx
end Go.Proofs.YtjapgpmoojfhnaaGreatDoor

namespace Go.Proofs.YtjapgpmoojfhnaaGreatDoor
open Go.RowKit Go.Lib

/-- What the loop of binary.Of holds behind k bytes. -/
structure Gath (N k z m : Nat) : Prop where
  zk : z ≤ k
  k8 : k - z ≤ 8
  lt : m < 256 ^ (k - z)
  sum : m * 256 ^ z + N / 256 ^ k * 256 ^ k = N
  zero : m = 0 → k = z
  low : m ≠ 0 → m % 256 ≠ 0
theorem Gath.start (N : Nat) : Gath N 0 0 0 := ⟨Nat.le_refl _, by simp, by simp, by simp, fun _ => rfl, fun h => absurd rfl h⟩
theorem div_next (N k : Nat) : N / 256 ^ (k + 1) = N / 256 ^ k / 256 := by rw [Nat.pow_succ, Nat.div_div_eq_div_mul]
theorem Gath.skip {N k z m : Nat} (h : Gath N k z m) (h0 : m = 0) (hd : N / 256 ^ k % 256 = 0) : Gath N (k + 1) (z + 1) m := by
  obtain ⟨h1, h2, h3, h4, h5, h6⟩ := h
  have hk := h5 h0
  subst hk
  refine ⟨by omega, by omega, by rw [h0]; exact Nat.pow_pos (by omega), ?_, fun _ => rfl, h6⟩
  subst h0
  rw [Nat.zero_mul, Nat.zero_add] at h4 ⊢
  rw [div_next, Nat.pow_succ, Nat.mul_comm (256 ^ k) 256, ← Nat.mul_assoc]
  rw [show N / 256 ^ k / 256 * 256 = N / 256 ^ k by omega]
  exact h4
theorem Gath.take {N k z m : Nat} (h : Gath N k z m) (hk8 : k - z < 8) (hd : m = 0 → N / 256 ^ k % 256 ≠ 0) : Gath N (k + 1) z (m + N / 256 ^ k % 256 * 256 ^ (k - z)) := by
  obtain ⟨h1, h2, h3, h4, h5, h6⟩ := h
  obtain ⟨j, rfl⟩ : ∃ j, k = z + j := ⟨k - z, by omega⟩
  rw [show z + j - z = j by omega] at h2 h3 hk8 ⊢
  obtain ⟨D, hD⟩ : ∃ D, N / 256 ^ (z + j) = D := ⟨_, rfl⟩
  rw [hD] at h4 hd ⊢
  have e1 : z + j + 1 - z = j + 1 := by omega
  have hpos : 0 < 256 ^ j := Nat.pow_pos (by omega)
  have hdm : D % 256 < 256 := Nat.mod_lt _ (by omega)
  refine ⟨by omega, by omega, ?_, ?_, ?_, ?_⟩
  · rw [e1, Nat.pow_succ]
    have : D % 256 * 256 ^ j ≤ 255 * 256 ^ j := Nat.mul_le_mul_right _ (by omega)
    omega
  · rw [div_next, hD, Nat.add_mul, Nat.mul_assoc, ← Nat.pow_add, Nat.add_comm j z, Nat.pow_succ, Nat.mul_comm (256 ^ (z + j)) 256, ← Nat.mul_assoc (D / 256) 256, Nat.add_assoc, ← Nat.add_mul]
    rw [show D % 256 + D / 256 * 256 = D by omega]
    exact h4
  · intro h0
    exfalso
    have hm : m = 0 := by omega
    have h7 := hd hm
    have : 0 < D % 256 * 256 ^ j := Nat.mul_pos (by omega) hpos
    omega
  · intro _
    by_cases hm : m = 0
    · have h7 := hd hm
      have hj : j = 0 := by have := h5 hm; omega
      subst hj
      rw [hm, Nat.pow_zero, Nat.mul_one]
      omega
    · have h7 := h6 hm
      have hj : j ≠ 0 := fun h => by rw [h] at h3; simp at h3; exact hm h3
      obtain ⟨i, rfl⟩ : ∃ i, j = i + 1 := ⟨j - 1, by omega⟩
      rw [Nat.pow_succ, ← Nat.mul_assoc]
      omega
end Go.Proofs.YtjapgpmoojfhnaaGreatDoor
