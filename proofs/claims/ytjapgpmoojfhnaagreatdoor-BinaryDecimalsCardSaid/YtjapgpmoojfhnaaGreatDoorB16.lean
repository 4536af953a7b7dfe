/- law03's Text: a canonical integer text of at most 400 digits. integer's trim and read at canonical texts. integer's short: a list of digits divided by 256. integer's Valid and Magnitude at canonical texts. binary.Of: the bytes of a magnitude gathered. -/
import Derived.Test.YtjapgpmoojfhnaaGreatDoorB15
namespace Go.Proofs.YtjapgpmoojfhnaaGreatDoor
open Go.RowKit Go.Lib

/-- Digits that Text has gathered. -/
def GoodT (l : List Nat) : Prop := (∀ x ∈ l, 48 ≤ x ∧ x ≤ 57) ∧ l.head? ≠ some 48
theorem GoodT.nil : GoodT [] := ⟨by simp, by simp⟩
theorem GoodT.snoc {l : List Nat} (h : GoodT l) {d : Nat} (h1 : 48 ≤ d) (h2 : d ≤ 57) (h3 : d = 48 → l ≠ []) : GoodT (l ++ [d]) := by
  refine ⟨fun x hx => ?_, ?_⟩
  · rw [List.mem_append] at hx
    rcases hx with hx | hx
    · exact h.1 x hx
    · rw [List.mem_singleton.1 hx]; exact ⟨h1, h2⟩
  · cases l with
    | nil =>
      intro he
      have : d = 48 := by simpa using he
      exact h3 this rfl
    | cons c l => exact h.2
theorem GoodT.take {l : List Nat} (h : GoodT l) (k : Nat) (hk : 0 < k) : GoodT (l.take k) := by
  refine ⟨fun x hx => h.1 x (List.mem_of_mem_take hx), ?_⟩
  rw [List.head?_take, if_neg (by omega)]
  exact h.2
/-- What Text holds between its loops. -/
def HeldT (X : Nat) (g : Bool) (D : ByteArray) (n : Nat) (w : World) (N : Nat) (v : Value) (wx : World) : Prop :=
  ∃ acc : List Nat, GoodT acc ∧ acc.length ≤ N ∧ wx.heap[X]? = some (.cells #[.bool g, .string D, .int .u16 (n : Int)] 72 (0, 0)) ∧ wx.ownsRow (X + 1) 5 1 v acc.length (u8s acc) ∧ X + 1 ≤ wx.heap.size ∧ Below X w wx
theorem u8s_snoc (acc : List Nat) (d : Nat) : u8s (acc ++ [d]) = u8s acc ++ [.int .u8 (d : Int)] := by simp [u8s]
theorem HeldT.mono {X : Nat} {g : Bool} {D : ByteArray} {n : Nat} {w : World} {N M : Nat} {v : Value} {wx : World} (h : HeldT X g D n w N v wx) (hm : N ≤ M) : HeldT X g D n w M v wx := by
  obtain ⟨acc, h1, h2, h3⟩ := h
  exact ⟨acc, h1, by omega, h3⟩
set_option maxHeartbeats 4000000 in
set_option maxRecDepth 100000 in
theorem text03_any (g : Bool) (D : ByteArray) (n : Nat) (hn : n < 65536) (w : World) : Calls Tryz.prog 37 #[.agg #[.bool g, .string D, .int .u16 (n : Int)]] w fun x w' => ∃ T : List Nat, GoodT T ∧ T.length ≤ 400 ∧ x = .returned (.string (if T = [] then ⟨#[48]⟩ else if g = true then ⟨((45 :: T.map UInt8.ofNat) : List UInt8).toArray⟩ else ⟨(T.map UInt8.ofNat).toArray⟩)) ∧ Below w.heap.size w w' := by
  obtain ⟨i0, hi, hz0, hz1, hz2⟩ := info_parts info5
  obtain ⟨q, hq⟩ : ∃ q, n % 450 = q := ⟨_, rfl⟩
  have hq4 : q < 450 := by omega
  have q1 : Int.tmod (n : Int) 450 = (q : Int) := by rw [Int.tmod_eq_emod_of_nonneg (by omega)]; omega
  have q2 : (n : Int) % 450 = (q : Int) := by omega
  have q3 : IntKind.u16.wrap (q : Int) = (q : Int) := by rw [IntKind.wrap_u16]; omega
  have q4 : IntKind.i64.wrap (q : Int) = (q : Int) := IntWalk.i64_in _ (by omega)
  clear hq hn
  go_enter Tryz.func37, Tryz.ntmps37
  go_upto_block 0 with fail
  obtain ⟨X, hX⟩ : ∃ X, w.heap.size = X := ⟨_, rfl⟩
  obtain ⟨w2, hw2⟩ : ∃ w2, w.alloc (.cells #[.bool g, .string D, .int .u16 (n : Int)] 72) = w2 := ⟨_, rfl⟩
  have hXc := heap_alloc_new w (.cells #[.bool g, .string D, .int .u16 (n : Int)] 72)
  have hb2 : Below X w w2 := by rw [← hw2, ← hX]; exact (Below.refl _ _).alloc (Nat.le_refl _) _
  have hs2 : w2.heap.size = X + 1 := by rw [← hw2, ← hX]; simp
  rw [hw2, hX] at hXc
  rw [hw2, hX]
  have HX := Lib.hid hX
  clear hw2 hX
  go_cut [3, 4] (fun t3 t4 wx => HeldT X g D n w 450 t3 wx)
  case first =>
    go_wp2_with fail
    go_loopg [3, 4] 450 (fun f t3 t4 wx => ∃ k : Nat, t4 = .int .i64 (k : Int) ∧ k + f = 450 ∧ HeldT X g D n w k t3 wx)
    case atStart => exact ⟨0, rfl, rfl, [], GoodT.nil, by simp, hXc, World.ownsRow_nil _ _ _ _, by omega, hb2⟩
    case round =>
      obtain ⟨k, rfl, hk, hH⟩ := hrel
      have hH2 := hH
      obtain ⟨acc, hG, hal, hA, hown, hsz, hbx⟩ := hH2
      obtain ⟨A, cp, rfl⟩ := own_form hown
      have HG := Lib.hid (And.intro hG hal)
      have z1 := at_block hA 1 _ rfl
      by_cases hkD : k < D.size
      · have n1 : decide (k < D.size) = true := decide_eq_true hkD
        by_cases hk4 : k < 450
        · obtain ⟨f, rfl⟩ : ∃ f, gk = f + 1 := ⟨gk - 1, by omega⟩
          have n2 : decide (k < 450) = true := decide_eq_true hk4
          have n2b : decide ((k : Int) < 450) = true := decide_eq_true (by omega)
          obtain ⟨d, hd⟩ : ∃ d : UInt8, D[k]'hkD = d := ⟨_, rfl⟩
          have hk0 : (0 : Int) ≤ (k : Int) := by omega
          have hki : (k : Int) < D.size := by omega
          have k1 : IntKind.i64.wrap ((k : Int) + 1) = ((k + 1 : Nat) : Int) := by have := IntWalk.i64_in ((k : Int) + 1) (by omega); rw [this]; omega
          by_cases hgood : 48 ≤ d.toNat ∧ d.toNat ≤ 57 ∧ (d.toNat = 48 → acc ≠ [])
          · obtain ⟨g1, g2, g3⟩ := hgood
            have c1 : decide (48 ≤ d.toNat) = true := decide_eq_true g1
            have c1b : decide ((48 : Int) ≤ (d.toNat : Int)) = true := decide_eq_true (by omega)
            have c2 : decide (d.toNat ≤ 57) = true := decide_eq_true g2
            have c2b : decide ((d.toNat : Int) ≤ 57) = true := decide_eq_true (by omega)
            obtain ⟨bz, hbz⟩ : ∃ bz, ((d.toNat : Int) == 48) = bz := ⟨_, rfl⟩
            obtain ⟨m, hm⟩ : ∃ m, acc.length = m := ⟨_, rfl⟩
            have hm0 : bz = true → 0 < m := fun h => by
              rw [← hm]
              rw [h] at hbz
              have := eq_of_beq hbz
              exact List.length_pos_iff.2 (g3 (by omega))
            have hG2 : GoodT (acc ++ [d.toNat]) := HG.out.1.snoc g1 g2 g3
            have hal2 : (acc ++ [d.toNat]).length ≤ k + 1 := by rw [List.length_append]; simp; omega
            rw [hm] at hown hal
            rw [hm]
            have HA := Lib.hid hA
            have HM := Lib.hid hm
            have HG2 := Lib.hid (And.intro hG2 hal2)
            have HBX := Lib.hid hbx
            clear hA hH hG hG2 hal2 hm g3 hbx
            have fin : ∀ (v' : Value) (w3 : World), w3.ownsRow (X + 1) 5 1 v' (m + 1) (u8s acc ++ [.int .u8 (d.toNat : Int)]) → Below (X + 1) wr w3 → HeldT X g D n w (k + 1) v' w3 := fun v' w3 ho hb => by
              refine ⟨acc ++ [d.toNat], HG2.out.1, HG2.out.2, (hb.block X (by omega)).trans HA.out, ?_, by have := hb.size; omega, HBX.out.trans (hb.mono (by omega))⟩
              rw [u8s_snoc, List.length_append, HM.out]
              exact ho
            have FIN := Lib.hid fin
            clear fin
            cases bz with
            | true =>
              have hm1 := hm0 rfl
              obtain rfl : d = 48 := UInt8.toNat_inj.1 (by have := eq_of_beq hbz; show d.toNat = 48; omega)
              have c3 : decide (0 < m) = true := decide_eq_true hm1
              have c3b : decide ((0 : Int) < (m : Int)) = true := decide_eq_true (by omega)
              clear hm0
              go_wp2_with (at_builtin; refine wpList_append_own _ rfl _ _ 31 rfl (X + 1) 5 i0 (.int .u8 0) 1 1 Tryz.underlying31 hi hz0 hz1 hz2 rfl (by decide) _ _ _ rfl (hown.alloc _) ⟨wr.heap.size, 0, none⟩ 1 1 [.int .u8 (48 : Int)] rfl rfl ?c1 ?c2 ?c3 ?c4 ?c5 ?_)
              case c1 =>
                intro j u' hj
                match j, hj with
                | 0, hj => simp at hj; subst hj; simp [Addr.add]
              case c2 => intro u' hu'; simp at hu'; subst hu'; rfl
              case c3 => unfold maxLen; omega
              case c4 => omega
              case c5 => simp; omega
              intro v' w3 hown3 hgr3 _
              have hb3 : Below (X + 1) wr w3 := ((Below.refl _ _).alloc (by omega) _).grown hgr3 (by simp; omega) (fun k hk => (hown.lt k hk).1)
              have H3 := Lib.hid (FIN.out _ _ hown3 hb3)
              clear hgr3 hown hown3 hb3 z1
              go_wp2_with fail
              go_roundg f
              case measure => omega
              case rel => exact ⟨k + 1, rfl, by omega, H3.out⟩
            | false =>
              have hbn : ((d.toNat : Int) != 48) = true := by rw [bne, hbz]; rfl
              clear hm0
              go_wp2_with (at_builtin; refine wpList_append_own _ rfl _ _ 31 rfl (X + 1) 5 i0 (.int .u8 0) 1 1 Tryz.underlying31 hi hz0 hz1 hz2 rfl (by decide) _ _ _ rfl (hown.alloc _) ⟨wr.heap.size, 0, none⟩ 1 1 [.int .u8 (d.toNat : Int)] rfl rfl ?c1 ?c2 ?c3 ?c4 ?c5 ?_)
              case c1 =>
                intro j u' hj
                match j, hj with
                | 0, hj => simp at hj; subst hj; simp [Addr.add]
              case c2 => intro u' hu'; simp at hu'; subst hu'; rfl
              case c3 => unfold maxLen; omega
              case c4 => omega
              case c5 => simp; omega
              intro v' w3 hown3 hgr3 _
              have hb3 : Below (X + 1) wr w3 := ((Below.refl _ _).alloc (by omega) _).grown hgr3 (by simp; omega) (fun k hk => (hown.lt k hk).1)
              have H3 := Lib.hid (FIN.out _ _ hown3 hb3)
              clear hgr3 hown hown3 hb3 z1
              go_wp2_with fail
              go_roundg f
              case measure => omega
              case rel => exact ⟨k + 1, rfl, by omega, H3.out⟩
          · have hcase : d.toNat < 48 ∨ 57 < d.toNat ∨ (d.toNat = 48 ∧ acc = []) := by
              by_cases a1 : d.toNat < 48
              · exact .inl a1
              · by_cases a2 : 57 < d.toNat
                · exact .inr (.inl a2)
                · refine .inr (.inr ?_)
                  by_cases a3 : d.toNat = 48
                  · refine ⟨a3, ?_⟩
                    by_cases a4 : acc = []
                    · exact a4
                    · exact absurd ⟨by omega, by omega, fun _ => a4⟩ hgood
                  · exact absurd ⟨by omega, by omega, fun h => absurd h a3⟩ hgood
            obtain ⟨m, hm⟩ : ∃ m, acc.length = m := ⟨_, rfl⟩
            rw [hm] at hown hH
            have HH := Lib.hid (hH.mono (Nat.le_succ k))
            have hcase2 : d.toNat < 48 ∨ 57 < d.toNat ∨ (d.toNat = 48 ∧ m = 0) := by
              rcases hcase with h | h | ⟨h1, h2⟩
              · exact .inl h
              · exact .inr (.inl h)
              · exact .inr (.inr ⟨h1, by rw [← hm, h2]; rfl⟩)
            rw [hm]
            clear hH hA hown hsz hbx hgood hcase hm hG hal
            rcases hcase2 with h | h | ⟨h, rfl⟩
            · have c1 : decide (48 ≤ d.toNat) = false := decide_eq_false (by omega)
              have c1b : decide ((48 : Int) ≤ (d.toNat : Int)) = false := decide_eq_false (by omega)
              clear h
              go_wp2_with fail
              go_roundg f
              case measure => omega
              case rel => exact ⟨k + 1, rfl, by omega, HH.out⟩
            · have c1 : decide (48 ≤ d.toNat) = true := decide_eq_true (by omega)
              have c1b : decide ((48 : Int) ≤ (d.toNat : Int)) = true := decide_eq_true (by omega)
              have c2 : decide (d.toNat ≤ 57) = false := decide_eq_false (by omega)
              have c2b : decide ((d.toNat : Int) ≤ 57) = false := decide_eq_false (by omega)
              clear h
              go_wp2_with fail
              go_roundg f
              case measure => omega
              case rel => exact ⟨k + 1, rfl, by omega, HH.out⟩
            · have hd48 : d = 48 := UInt8.toNat_inj.1 h
              subst hd48
              clear h
              go_wp2_with fail
              go_roundg f
              case measure => omega
              case rel => exact ⟨k + 1, rfl, by omega, HH.out⟩
        · have n2 : decide (k < 450) = false := decide_eq_false hk4
          have n2b : decide ((k : Int) < 450) = false := decide_eq_false (by omega)
          have HH := Lib.hid (hH.mono (show k ≤ 450 by omega))
          clear hH hA hown hsz hbx
          go_wp2_with fail
          go_meet
          exact HH.out
      · have n1 : decide (k < D.size) = false := decide_eq_false hkD
        have HH := Lib.hid (hH.mono (show k ≤ 450 by omega))
        clear hH hA hown hsz hbx
        go_wp2_with fail
        go_meet
        exact HH.out
  case rest =>
    obtain ⟨acc, hG, hal, hA, hown, hsz, hbx⟩ := hcut
    have z2 := at_block hA 2 _ rfl
    have H0 := Lib.hid (show HeldT X g D n w 450 _ wc from ⟨acc, hG, hal, hA, hown, hsz, hbx⟩)
    clear hG hal hA hown hsz hbx
    go_wp2_with fail
    clear z2
    go_loopg [3, 51] q (fun f t3 t51 wx => ∃ k : Nat, t51 = .int .i64 (k : Int) ∧ k + f = q ∧ HeldT X g D n w (450 + k) t3 wx)
    case atStart => exact ⟨0, rfl, by omega, H0.out⟩
    case round =>
      obtain ⟨k, rfl, hk, acc, hG, hal, hA, hown, hsz, hbx⟩ := hrel
      obtain ⟨A, cp, rfl⟩ := own_form hown
      by_cases hkq : k < q
      · obtain ⟨f, rfl⟩ : ∃ f, gk = f + 1 := ⟨gk - 1, by omega⟩
        have n1 : decide (k < q) = true := decide_eq_true hkq
        have n1b : decide ((k : Int) < (q : Int)) = true := decide_eq_true (by omega)
        have k1 : IntKind.i64.wrap ((k : Int) + 1) = ((k + 1 : Nat) : Int) := by have := IntWalk.i64_in ((k : Int) + 1) (by omega); rw [this]; omega
        obtain ⟨m, hm⟩ : ∃ m, acc.length = m := ⟨_, rfl⟩
        have hG2 : GoodT (acc ++ [57]) := hG.snoc (by omega) (by omega) (by omega)
        have hal2 : (acc ++ [57]).length ≤ 450 + (k + 1) := by rw [List.length_append]; simp; omega
        rw [hm] at hown hal
        rw [hm]
        have HA := Lib.hid hA
        have HM := Lib.hid hm
        have HG2 := Lib.hid (And.intro hG2 hal2)
        have HBX := Lib.hid hbx
        clear hA hG hG2 hal2 hm hbx
        have fin : ∀ (v' : Value) (w3 : World), w3.ownsRow (X + 1) 5 1 v' (m + 1) (u8s acc ++ [.int .u8 57]) → Below (X + 1) wr w3 → HeldT X g D n w (450 + (k + 1)) v' w3 := fun v' w3 ho hb => by
          refine ⟨acc ++ [57], HG2.out.1, HG2.out.2, (hb.block X (by omega)).trans HA.out, ?_, by have := hb.size; omega, HBX.out.trans (hb.mono (by omega))⟩
          rw [u8s_snoc, List.length_append, HM.out]
          exact ho
        have FIN := Lib.hid fin
        clear fin H0
        go_wp2_with (at_builtin; refine wpList_append_own _ rfl _ _ 31 rfl (X + 1) 5 i0 (.int .u8 0) 1 1 Tryz.underlying31 hi hz0 hz1 hz2 rfl (by decide) _ _ _ rfl (hown.alloc _) ⟨wr.heap.size, 0, none⟩ 1 1 [.int .u8 57] rfl rfl ?c1 ?c2 ?c3 ?c4 ?c5 ?_)
        case c1 =>
          intro j u' hj
          match j, hj with
          | 0, hj => simp at hj; subst hj; simp [Addr.add]
        case c2 => intro u' hu'; simp at hu'; subst hu'; rfl
        case c3 => unfold maxLen; omega
        case c4 => omega
        case c5 => simp; omega
        intro v' w3 hown3 hgr3 _
        have hb3 : Below (X + 1) wr w3 := ((Below.refl _ _).alloc (by omega) _).grown hgr3 (by simp; omega) (fun k hk => (hown.lt k hk).1)
        have H3 := Lib.hid (FIN.out _ _ hown3 hb3)
        clear hgr3 hown hown3 hb3
        go_wp2_with fail
        go_roundg f
        case measure => omega
        case rel => exact ⟨k + 1, rfl, by omega, H3.out⟩
      · have n1 : decide (k < q) = false := decide_eq_false hkq
        have n1b : decide ((k : Int) < (q : Int)) = false := decide_eq_false (by omega)
        obtain ⟨A', c', hv, hnc, hr⟩ := own_slice hown
        injection hv with h2 _ h3
        subst h2
        subst h3
        obtain ⟨m, hm⟩ : ∃ m, acc.length = m := ⟨_, rfl⟩
        have z0 := at_block hA 0 _ rfl
        have HBX := Lib.hid hbx
        rw [hm] at hown hr hnc
        rw [hm]
        clear hbx
        by_cases hm0 : m = 0
        · subst hm0
          clear hown hr hA hG hal hkq H0 hm hnc
          cases g
          all_goals
            go_wp2_with fail
            refine bodyPost_ret (v := .string ⟨#[48]⟩) (by simp [results, Tryz.results37, go_sem]) rfl ?_
            rw [HX.out]
            exact ⟨[], GoodT.nil, by simp, rfl, HBX.out⟩
        · obtain ⟨b, off, _, rfl, _, _, _⟩ := hr.at_ (k := 0) (by omega)
          by_cases hm4 : 400 < m
          · have n3 : decide (400 < m) = true := decide_eq_true hm4
            have n3b : decide ((400 : Int) < (m : Int)) = true := decide_eq_true (by omega)
            have n4 : (400 : Int) ≤ (cp : Int) := by omega
            have n5 : 400 ≤ cp := by omega
            obtain ⟨T, hTe⟩ : ∃ T, acc.take 400 = T := ⟨_, rfl⟩
            have hr4 := hr.take 400 (by omega)
            have hTr : (u8s acc).take 400 = u8s T := by rw [← hTe]; simp [u8s, List.map_take]
            rw [hTr] at hr4
            have hcv := conv_bytes (c := cp) hr4 (fun h => by omega)
            have hGT : GoodT T := by rw [← hTe]; exact hG.take 400 (by omega)
            have hTl : T.length ≤ 400 := by rw [← hTe, List.length_take]; omega
            have hTn : T ≠ [] := fun h => by rw [h] at hTe; have := congrArg List.length hTe; rw [List.length_take, List.length_nil] at this; omega
            clear hTe hr4 hTr hm hm4 hnc
            obtain ⟨S, hS⟩ : ∃ S : ByteArray, (⟨(T.map UInt8.ofNat).toArray⟩ : ByteArray) = S := ⟨_, rfl⟩
            have hSs : S.size ≤ 1000 := by rw [← hS]; show ((T.map UInt8.ofNat)).length ≤ 1000; rw [List.length_map]; omega
            rw [hS] at hcv
            have hadd := fun W => run_string_add_sum (P := Tryz.prog) (w := W) ⟨#[45]⟩ S (by show 1 + S.size ≤ _; omega)
            have HT := Lib.hid (And.intro hGT (And.intro hTl hTn))
            have HS := Lib.hid hS
            clear hGT hTl hTn hS hSs hown hr hA hG hal hkq H0
            cases g with
            | true =>
              go_wp2_with fail
              refine bodyPost_ret (v := .string (⟨#[45]⟩ ++ S)) (by simp [results, Tryz.results37, go_sem]) rfl ?_
              rw [HX.out]
              refine ⟨T, HT.out.1, HT.out.2.1, ?_, HBX.out⟩
              rw [if_neg HT.out.2.2, ← HS.out]
              congr 2
            | false =>
              go_wp2_with fail
              refine bodyPost_ret (v := .string S) (by simp [results, Tryz.results37, go_sem]) rfl ?_
              rw [HX.out]
              refine ⟨T, HT.out.1, HT.out.2.1, ?_, HBX.out⟩
              rw [if_neg HT.out.2.2, HS.out]
          · have n3 : decide (400 < m) = false := decide_eq_false hm4
            have n3b : decide ((400 : Int) < (m : Int)) = false := decide_eq_false (by omega)
            have n4 : ((m : Int) == 0) = false := by rw [beq_eq_false_iff_ne]; omega
            have n5 : (m == 0) = false := by rw [beq_eq_false_iff_ne]; exact hm0
            obtain ⟨T, hTe⟩ : ∃ T, acc = T := ⟨_, rfl⟩
            rw [hTe] at hr hG hm
            have hcv := conv_bytes (c := cp) hr (fun h => by omega)
            have hGT : GoodT T := hG
            have hTl : T.length ≤ 400 := by omega
            have hTn : T ≠ [] := fun h => by rw [h] at hm; simp at hm; omega
            clear hTe hm hm4 hnc hm0
            obtain ⟨S, hS⟩ : ∃ S : ByteArray, (⟨(T.map UInt8.ofNat).toArray⟩ : ByteArray) = S := ⟨_, rfl⟩
            have hSs : S.size ≤ 1000 := by rw [← hS]; show ((T.map UInt8.ofNat)).length ≤ 1000; rw [List.length_map]; omega
            rw [hS] at hcv
            have hadd := fun W => run_string_add_sum (P := Tryz.prog) (w := W) ⟨#[45]⟩ S (by show 1 + S.size ≤ _; omega)
            have HT := Lib.hid (And.intro hGT (And.intro hTl hTn))
            have HS := Lib.hid hS
            clear hGT hTl hTn hS hSs hown hr hA hG hal hkq H0
            cases g with
            | true =>
              go_wp2_with fail
              refine bodyPost_ret (v := .string (⟨#[45]⟩ ++ S)) (by simp [results, Tryz.results37, go_sem]) rfl ?_
              rw [HX.out]
              refine ⟨T, HT.out.1, HT.out.2.1, ?_, HBX.out⟩
              rw [if_neg HT.out.2.2, ← HS.out]
              congr 2
            | false =>
              go_wp2_with fail
              refine bodyPost_ret (v := .string S) (by simp [results, Tryz.results37, go_sem]) rfl ?_
              rw [HX.out]
              refine ⟨T, HT.out.1, HT.out.2.1, ?_, HBX.out⟩
              rw [if_neg HT.out.2.2, HS.out]
end Go.Proofs.YtjapgpmoojfhnaaGreatDoor

namespace Go.Proofs.YtjapgpmoojfhnaaGreatDoor
open Go.RowKit Go.Lib

/-- The digits that are left where the leading noughts (the last in the list) are taken off. -/
def Trimmed (l : List Nat) (n m : Nat) : Prop := m ≤ n ∧ (m = 0 ∨ ∃ d, l[m - 1]? = some d ∧ d ≠ 0) ∧ ∀ j, m ≤ j → j < n → l[j]? = some 0
set_option maxHeartbeats 1000000 in
set_option maxRecDepth 100000 in
theorem inttrim_any (A : Option Addr) (n c : Nat) (l : List Nat) (w : World) (hr : Reads w w.heap.size A n (u8s l)) (hc : n ≤ c) (hn : n ≤ 1073741824) : Calls Tryz.prog 160 #[.slice A n c] w fun x w' => (∃ m, Trimmed l n m ∧ x = .returned (.slice A m c)) ∧ w' = w := by
  have hll : l.length = n := by have := hr.1; rwa [u8s_len] at this
  go_enter Tryz.func160, Tryz.ntmps160
  go_wp2
  go_loopg [0] n (fun f i wx => ∃ m : Nat, i = .slice A m c ∧ m ≤ n ∧ m ≤ f ∧ wx = w ∧ ∀ j, m ≤ j → j < n → l[j]? = some 0)
  case atStart => exact ⟨n, rfl, by omega, by omega, rfl, fun j h1 h2 => by omega⟩
  case round =>
    obtain ⟨m, rfl, hm, hf, rfl, hz⟩ := hrel
    by_cases h0 : m = 0
    · subst h0
      have HZ := Lib.hid hz
      clear hz hll
      go_wp2
      go_ret
      exact ⟨⟨0, ⟨by omega, .inl rfl, HZ.out⟩, rfl⟩, rfl⟩
    · obtain ⟨q, rfl⟩ : ∃ q, m = q + 1 := ⟨m - 1, by omega⟩
      obtain ⟨b, off, u, rfl, hbB, hu, hcell⟩ := hr.at_ (k := q) (by omega)
      obtain ⟨x, hx, rfl⟩ := u8_at hu
      have hin : (0 : Int) < ((q + 1 : Nat) : Int) := by omega
      by_cases hx0 : x = 0
      · have hx0f : ((x : Int) == 0) = true := by subst hx0; rfl
        obtain ⟨f, rfl⟩ : ∃ f, gk = f + 1 := ⟨gk - 1, by omega⟩
        have HX := Lib.hid (show ∀ j, q ≤ j → j < n → l[j]? = some 0 from fun j h1 h2 => by
          by_cases hj : j = q
          · rw [hj, hx, hx0]
          · exact hz j (by omega) h2)
        clear hx0 hx hu hz hll
        go_wp2
        go_roundg f
        case measure => omega
        case rel => exact ⟨q, by go_num, by omega, by omega, rfl, HX.out⟩
      · have hx0f : ((x : Int) == 0) = false := by simp; omega
        have HX := Lib.hid (show Trimmed l n (q + 1) from ⟨hm, .inr ⟨x, hx, hx0⟩, hz⟩)
        clear hx0 hx hu hz hll
        go_wp2
        go_ret
        exact ⟨⟨q + 1, HX.out, rfl⟩, rfl⟩
theorem u8s_set (l : List Nat) (q x : Nat) : (u8s (l.set q x)).toArray = (u8s l).toArray.setIfInBounds q (.int .u8 (x : Int)) := by
  rw [u8s, u8s, List.setIfInBounds_toArray, List.map_set]
/-- What integer.read wants of a text that it takes. -/
structure ReadPre (s T : ByteArray) (g : Bool) : Prop where
  len : g = true → 1 < s.size
  head : ∀ h : 1 < s.size, (((s[0]'(by omega)).toNat : Int) == 45) = g
  cut : g = true → s.extract 1 s.size = T
  whole : g = false → s = T
  pos : 0 < T.size
  le : T.size ≤ 400
  digs : ∀ k (h : k < T.size), 48 ≤ (T[k]'h).toNat ∧ (T[k]'h).toNat ≤ 57
  one : ∀ h : 0 < T.size, (((T[0]'h).toNat : Int) == 48) = true → ¬ 1 < s.size
/-- A text's digits, least significant first. -/
def ldig (T : ByteArray) : List Nat := (T.data.toList.map fun b => b.toNat - 48).reverse
theorem ldig_is {T : ByteArray} {lc : List Nat} (hl : lc.length = T.size) (h : ∀ j (hj : j < T.size), lc[T.size - 1 - j]? = some ((T[j]'hj).toNat - 48)) : lc = ldig T := by
  have hz : T.data.toList.length = T.size := (ba_size T).symm
  apply List.ext_getElem?
  intro i
  by_cases hi : i < T.size
  · have h1 := h (T.size - 1 - i) (by omega)
    rw [show T.size - 1 - (T.size - 1 - i) = i by omega] at h1
    rw [h1, ldig, List.getElem?_reverse (by rw [List.length_map, hz]; exact hi), List.length_map, hz, List.getElem?_map, byte_at (by omega) rfl]
    rfl
  · rw [List.getElem?_eq_none (by omega), List.getElem?_eq_none (by rw [ldig, List.length_reverse, List.length_map, hz]; omega)]
set_option maxHeartbeats 4000000 in
set_option maxRecDepth 100000 in
theorem intread_good (s T : ByteArray) (g : Bool) (hp : ReadPre s T g) (w : World) : Calls Tryz.prog 126 #[.string s] w fun x w' => (∃ A m, Trimmed (ldig T) T.size m ∧ Reads w' w'.heap.size A m (u8s ((ldig T).take m)) ∧ x = .returned (.tuple #[.agg #[.bool g, .slice A m T.size], .bool true])) ∧ Below w.heap.size w w' := by
  have hmk := fun n h W => make_bytes n h W
  obtain ⟨X, hX⟩ : ∃ X, w.heap.size = X := ⟨_, rfl⟩
  obtain ⟨w1, hw1⟩ : ∃ w1 : World, (w.alloc (.cells #[.bool false, .slice none 0 0] 163)).alloc (.cells #[.bool false, .slice none 0 0] 163) = w1 := ⟨_, rfl⟩
  have hb1 : Below X w w1 := by rw [← hw1, ← hX]; exact ((Below.refl _ _).alloc (Nat.le_refl _) _).alloc (by simp) _
  have hX1 : w1.heap[X]? = some (.cells #[.bool false, .slice none 0 0] 163 (0, 0)) := by
    rw [← hw1, ← hX]; exact (Below.heap_alloc _ _ _ (by simp)).trans (heap_alloc_new w _)
  have hY1 : w1.heap[X + 1]? = some (.cells #[.bool false, .slice none 0 0] 163 (0, 0)) := by
    rw [← hw1, ← hX]
    have := heap_alloc_new (w.alloc (.cells #[.bool false, .slice none 0 0] 163)) (.cells #[.bool false, .slice none 0 0] 163)
    simpa using this
  have hsz1 : w1.heap.size = X + 2 := by rw [← hw1, ← hX]; simp
  have HX := Lib.hid hX
  have HW1 := Lib.hid hw1
  have HX1 := Lib.hid hX1
  have HY1 := Lib.hid hY1
  have HP := Lib.hid hp
  have hTp := hp.pos
  have hTl := hp.le
  clear hw1 hX1 hY1 hp
  go_enter Tryz.func126, Tryz.ntmps126
  go_upto_region 3 with fail
  rw [HW1.out]
  go_cut [16] (fun c wx => c = .bool g ∧ wx = w1)
  case first =>
    by_cases h1 : 1 < s.size
    · have h1i : (1 : Int) < (s.size : Int) := by omega
      have h1d : decide (1 < s.size) = true := decide_eq_true h1
      have hE := HP.out.head h1
      obtain ⟨d, hd⟩ : ∃ d : UInt8, s[0]'(by omega) = d := ⟨_, rfl⟩
      rw [hd] at hE
      go_wp2_with fail
      go_meet
      exact ⟨rfl, rfl⟩
    · have h1d : decide (1 < s.size) = false := decide_eq_false h1
      have hE := Lib.hid (show g = false by
        cases g with
        | false => rfl
        | true => exact absurd (HP.out.len rfl) h1)
      go_wp2_with fail
      go_meet
      exact ⟨by rw [hE.out], rfl⟩
  case rest =>
    obtain ⟨rfl, hwc⟩ := hcut
    subst hwc
    go_upto_if 16 with fail
    go_cut [5] (fun s5 wx => s5 = .string T ∧ Below X w wx ∧ wx.heap.size = X + 2 ∧ wx.heap[X]? = some (.cells #[.bool false, .slice none 0 0] 163 (0, 0)) ∧ wx.heap[X + 1]? = some (.cells #[.bool g, .slice none 0 0] 163 (0, 0)))
    case first =>
      cases g with
      | true =>
        have h1 := HP.out.len rfl
        have h1i : (1 : Int) ≤ (s.size : Int) := by omega
        have E := HP.out.cut rfl
        have y0 := at_block HY1.out 0 _ rfl
        have f0 := free_block HY1.out 0
        go_wp2_with fail
        go_meet
        refine ⟨rfl, hb1.setCell (p := ⟨X + 1, 0, none⟩) (by show X ≤ X + 1; omega) _, by simp [World.setCell]; omega, ?_, ?_⟩
        · rw [Below.heap_setCell _ _ _ _ (show X ≠ X + 1 by omega)]; exact HX1.out
        · exact block_set HY1.out 0 _
      | false =>
        have E := Lib.hid (HP.out.whole rfl)
        go_wp2_with fail
        go_meet
        exact ⟨by rw [E.out], hb1, hsz1, HX1.out, HY1.out⟩
    case rest =>
      obtain ⟨rfl, hbc, hszc, hXc, hYc⟩ := hcut
      have HXC := Lib.hid hXc
      have HYC := Lib.hid hYc
      clear hXc hYc
      go_upto_region 6 with fail
      go_cut [37] (fun c wx => c = .bool false ∧ wx = wc)
      case first =>
        have h0f : ((T.size : Int) == 0) = false := beq_eq_false_iff_ne.2 (by omega)
        have h0g : (T.size == 0) = false := beq_eq_false_iff_ne.2 (by omega)
        have h4i : decide ((400 : Int) < (T.size : Int)) = false := decide_eq_false (by omega)
        have h4j : decide (400 < T.size) = false := decide_eq_false (by omega)
        have hpos : (0 : Int) < (T.size : Int) := by omega
        have hone := HP.out.one hTp
        obtain ⟨d, hd⟩ : ∃ d : UInt8, T[0]'hTp = d := ⟨_, rfl⟩
        rw [hd] at hone
        obtain ⟨b48, hb48⟩ : ∃ b, ((d.toNat : Int) == 48) = b := ⟨_, rfl⟩
        rw [hb48] at hone
        cases b48 with
        | true =>
          have h1 : decide (1 < s.size) = false := decide_eq_false (hone rfl)
          have h1b : decide ((1 : Int) < (s.size : Int)) = false := decide_eq_false (by have := hone rfl; omega)
          clear hone
          go_wp2_with fail
          go_meet
          exact ⟨rfl, rfl⟩
        | false =>
          clear hone
          go_wp2_with fail
          go_meet
          exact ⟨rfl, rfl⟩
      case rest =>
        obtain ⟨rfl, hwc⟩ := hcut
        subst hwc
        have x0 := at_block HXC.out 0 _ rfl
        have x1 := at_block HXC.out 1 _ rfl
        have fx0 := free_block HXC.out 0
        have fx1 := free_block HXC.out 1
        have y1 := at_block HYC.out 1 _ rfl
        have fy1 := free_block HYC.out 1
        have hmk2 := fun W => hmk T.size (by omega) W
        go_wp2_with fail
        have hbs : Below X w ((wc.setCell ⟨X + 1, 1, none⟩ (.slice (some ⟨X + 2, 0, none⟩) T.size T.size)).alloc (.cells (u8s (List.replicate T.size 0)).toArray 5)) :=
          (hbc.setCell (p := ⟨X + 1, 1, none⟩) (by show X ≤ X + 1; omega) _).alloc (by simp [World.setCell]; omega) _
        have hss : (wc.setCell ⟨X + 1, 1, none⟩ (.slice (some ⟨X + 2, 0, none⟩) T.size T.size)).heap.size = X + 2 := by simp [World.setCell]; exact hszc
        go_loopg [45] T.size (fun f i wx => ∃ (k : Nat) (lc : List Nat), i = .int .i64 k ∧ k ≤ T.size ∧ T.size ≤ k + f ∧ lc.length = T.size ∧ Below X w wx ∧ wx.heap[X]? = some (.cells #[.bool false, .slice none 0 0] 163 (0, 0)) ∧
          wx.heap[X + 1]? = some (.cells #[.bool g, .slice (some ⟨X + 2, 0, none⟩) T.size T.size] 163 (0, 0)) ∧ wx.heap[X + 2]? = some (.cells (u8s lc).toArray 5 (0, 0)) ∧ ∀ j (hj : j < T.size), j < k → lc[T.size - 1 - j]? = some ((T[j]'hj).toNat - 48))
        case atStart =>
          refine ⟨0, List.replicate T.size 0, rfl, by omega, by omega, by simp, hbs, ?_, ?_, ?_, fun j hj h => by omega⟩
          · rw [Below.heap_alloc _ _ _ (by rw [hss]; omega), Below.heap_setCell _ _ _ _ (show X ≠ X + 1 by omega)]; exact HXC.out
          · rw [Below.heap_alloc _ _ _ (by rw [hss]; omega)]; exact block_set HYC.out 1 _
          · have := heap_alloc_new (wc.setCell ⟨X + 1, 1, none⟩ (.slice (some ⟨X + 2, 0, none⟩) T.size T.size)) (.cells (u8s (List.replicate T.size 0)).toArray 5)
            rw [hss] at this
            exact this
        case round =>
          obtain ⟨k, lc, rfl, hk, hf, hlc, hbx, hXx, hYx, hZx, hall⟩ := hrel
          have HXx := Lib.hid hXx
          have HYx := Lib.hid hYx
          have HZx := Lib.hid hZx
          have HAL := Lib.hid hall
          have hk0 : (0 : Int) ≤ k := by omega
          clear x0 x1 fx0 fx1 y1 fy1
          have x0 := at_block hXx 0 _ rfl
          have x1 := at_block hXx 1 _ rfl
          have fx0 := free_block hXx 0
          have fx1 := free_block hXx 1
          have y0 := at_block hYx 0 _ rfl
          have y1 := at_block hYx 1 _ rfl
          have fy1 := free_block hYx 1
          clear hXx hYx hall
          by_cases hlt : k < T.size
          · have hin : (k : Int) < (T.size : Int) := by omega
            obtain ⟨f, rfl⟩ : ∃ f, gk = f + 1 := ⟨gk - 1, by omega⟩
            obtain ⟨g1, g2⟩ := HP.out.digs k hlt
            obtain ⟨d, hd⟩ : ∃ d : UInt8, T[k]'hlt = d := ⟨_, rfl⟩
            have HD := Lib.hid hd
            rw [hd] at g1 g2
            have h1i : decide ((d.toNat : Int) < 48) = false := decide_eq_false (by omega)
            have h1j : decide (d.toNat < 48) = false := decide_eq_false (by omega)
            have h2i : decide ((57 : Int) < (d.toNat : Int)) = false := decide_eq_false (by omega)
            have h2j : decide (57 < d.toNat) = false := decide_eq_false (by omega)
            obtain ⟨q, hq⟩ : ∃ q, T.size - 1 - k = q := ⟨_, rfl⟩
            have hqlt : q < T.size := by omega
            have hqi : (T.size : Int) - 1 - (k : Int) = (q : Int) := by omega
            have hw1 : IntKind.i64.wrap ((T.size : Int) - 1) = (T.size : Int) - 1 := IntWalk.i64_in _ (by omega)
            have hw2 : IntKind.i64.wrap ((T.size : Int) - 1 - (k : Int)) = (q : Int) := by rw [hqi]; exact IntWalk.i64_in _ (by omega)
            have hw3 : IntKind.u8.wrap ((d.toNat : Int) - 48) = (d.toNat : Int) - 48 := by rw [IntKind.wrap_u8]; omega
            obtain ⟨uu, huu⟩ : ∃ uu, (u8s lc)[q]? = some uu := ⟨_, List.getElem?_eq_getElem (by rw [u8s_len]; omega)⟩
            have z0 := at_block hZx q uu (by simpa using huu)
            have fz0 := free_block hZx q
            have hqi0 : (0 : Int) ≤ (q : Int) := by omega
            have hqlti : (q : Int) < (T.size : Int) := by omega
            clear hZx huu hqi
            go_upto_region 14 with fail
            go_region
            go_wp2_with fail
            go_roundg f
            case measure => omega
            case rel =>
              refine ⟨k + 1, lc.set q (d.toNat - 48), by go_num, by omega, by omega, by rw [List.length_set, hlc], (hbx.setCell (p := ⟨X + 2, q, none⟩) (by show X ≤ X + 2; omega) _).drew, ?_, ?_, ?_, ?_⟩
              · exact (Below.heap_setCell wr ⟨X + 2, q, none⟩ _ X (show X ≠ X + 2 by omega)).trans HXx.out
              · exact (Below.heap_setCell wr ⟨X + 2, q, none⟩ _ (X + 1) (show X + 1 ≠ X + 2 by omega)).trans HYx.out
              · rw [u8s_set, show ((d.toNat - 48 : Nat) : Int) = (d.toNat : Int) - 48 by omega]
                exact block_set HZx.out q _
              · intro j hj hjk
                by_cases hjk2 : j = k
                · subst hjk2
                  rw [hq, List.getElem?_set_self (by omega), HD.out]
                · rw [List.getElem?_set_ne (by omega)]
                  exact HAL.out j hj (by omega)
          · obtain rfl : k = T.size := by omega
            have hin : ¬ (T.size : Int) < (T.size : Int) := by omega
            have hlcd := ldig_is hlc (fun j hj => HAL.out j hj hj)
            subst hlcd
            have hR := Reads.of_block hZx
            have hl2 : (u8s (ldig T)).length = T.size := by rw [u8s_len, hlc]
            rw [hl2] at hR
            have TR := Lib.hid (inttrim_any (some ⟨X + 2, 0, none⟩) T.size T.size (ldig T) wr hR (Nat.le_refl _) (by omega))
            have HR := Lib.hid hR
            clear hR hl2 hZx
            go_wp2_with fail
            refine (TR.out).mono ?_
            rintro x w7 ⟨⟨m, hm, rfl⟩, rfl⟩
            have HM := Lib.hid hm
            clear hm
            go_wp2_with fail
            refine bodyPost_ret (v := .tuple #[.agg #[.bool g, .slice (some ⟨X + 2, 0, none⟩) m T.size], .bool true]) (by simp [results, Tryz.results126, go_sem, x0, x1]) rfl ?_
            refine ⟨⟨some ⟨X + 2, 0, none⟩, m, HM.out, ?_, rfl⟩, ?_⟩
            · have hz : ∀ v : Value, ((((w7.setCell ⟨X + 1, 1, none⟩ (.slice (some ⟨X + 2, 0, none⟩) m T.size)).setCell ⟨X, 0, none⟩ (.bool g)).setCell ⟨X, 1, none⟩ v)).heap[X + 2]? = some (.cells (u8s (ldig T)).toArray 5 (0, 0)) := fun v => by
                rw [Below.heap_setCell _ _ _ _ (show X + 2 ≠ X by omega), Below.heap_setCell _ _ _ _ (show X + 2 ≠ X by omega), Below.heap_setCell _ _ _ _ (show X + 2 ≠ X + 1 by omega)]
                exact HZx.out
              have h2 := Reads.of_block (hz (.slice (some ⟨X + 2, 0, none⟩) m T.size))
              have h3 := h2.take m (by rw [u8s_len, hlc]; exact HM.out.1)
              have e : (u8s (ldig T)).take m = u8s ((ldig T).take m) := by simp [u8s, List.map_take]
              rw [e] at h3
              exact h3
            · try rw [HX.out]
              exact ((hbx.setCell (p := ⟨X + 1, 1, none⟩) (by show X ≤ X + 1; omega) _).setCell (p := ⟨X, 0, none⟩) (Nat.le_refl _) _).setCell (p := ⟨X, 1, none⟩) (Nat.le_refl _) _
end Go.Proofs.YtjapgpmoojfhnaaGreatDoor

namespace Go.Proofs.YtjapgpmoojfhnaaGreatDoor
open Go.RowKit Go.Lib

/-- The value of digits, least significant first. -/
def dv : List Nat → Nat
  | [] => 0
  | d :: l => d + 10 * dv l
theorem dv_drop {l : List Nat} {k d : Nat} (h : l[k]? = some d) : dv (l.drop k) = d + 10 * dv (l.drop (k + 1)) := by
  have hk : k < l.length := by
    rcases Nat.lt_or_ge k l.length with h1 | h1
    · exact h1
    · rw [List.getElem?_eq_none h1] at h; cases h
  rw [List.drop_eq_getElem_cons hk]
  have : l[k] = d := by rw [List.getElem?_eq_getElem hk] at h; exact Option.some.inj h
  rw [this]
  rfl
theorem dv_zeros : ∀ (l : List Nat), (∀ x ∈ l, x = 0) → dv l = 0
  | [], _ => rfl
  | d :: l, h => by
    rw [dv, dv_zeros l (fun x hx => h x (by simp [hx])), h d (by simp)]
theorem dv_append : ∀ (a b : List Nat), dv (a ++ b) = dv a + 10 ^ a.length * dv b
  | [], b => by simp [dv]
  | d :: a, b => by
    rw [List.cons_append, dv, dv, dv_append a b, List.length_cons, Nat.pow_succ]
    rw [Nat.mul_add, Nat.mul_comm (10 ^ a.length) 10, Nat.mul_assoc]
    omega
theorem dv_trim {l : List Nat} {m : Nat} (h : Trimmed l l.length m) : dv (l.take m) = dv l := by
  have e : l = l.take m ++ l.drop m := (List.take_append_drop m l).symm
  have hz : dv (l.drop m) = 0 := dv_zeros _ fun x hx => by
    obtain ⟨i, hi⟩ := List.mem_iff_getElem?.1 hx
    rw [List.getElem?_drop] at hi
    have hlt : m + i < l.length := by
      rcases Nat.lt_or_ge (m + i) l.length with h1 | h1
      · exact h1
      · rw [List.getElem?_eq_none h1] at hi; cases hi
    have := h.2.2 (m + i) (by omega) hlt
    rw [this] at hi
    exact (Option.some.inj hi).symm
  have h2 := dv_append (l.take m) (l.drop m)
  rw [← e, hz] at h2
  omega
/-- No nought leads (none is last in the list). -/
def NoLead (l : List Nat) : Prop := l = [] ∨ ∃ d, l[l.length - 1]? = some d ∧ d ≠ 0
theorem noLead_trim {l : List Nat} {m : Nat} (h : Trimmed l l.length m) : NoLead (l.take m) := by
  obtain ⟨h1, h2 | ⟨d, h3, h4⟩, _⟩ := h
  · left; rw [h2]; rfl
  · by_cases hm : m = 0
    · left; rw [hm]; rfl
    · right
      refine ⟨d, ?_, h4⟩
      rw [List.length_take, Nat.min_eq_left h1, List.getElem?_take, if_pos (by omega)]
      exact h3
theorem dv_pos {l : List Nat} (h : NoLead l) (h0 : l ≠ []) : 0 < dv l := by
  rcases h with h | ⟨d, h1, h2⟩
  · exact absurd h h0
  · have hl : 0 < l.length := List.length_pos_iff.2 h0
    have e : l = l.take (l.length - 1) ++ l.drop (l.length - 1) := (List.take_append_drop _ l).symm
    have e2 := dv_append (l.take (l.length - 1)) (l.drop (l.length - 1))
    rw [← e, dv_drop h1] at e2
    have := Nat.mul_pos (Nat.pow_pos (n := (l.take (l.length - 1)).length) (show 0 < 10 by omega)) (show 0 < d + 10 * dv (l.drop (l.length - 1 + 1)) by omega)
    omega
set_option maxHeartbeats 4000000 in
set_option maxRecDepth 100000 in
theorem short_any (A : Option Addr) (n c : Nat) (l : List Nat) (w : World) (hr : Reads w w.heap.size A n (u8s l)) (hn : n ≤ 1000) (hd : ∀ x ∈ l, x ≤ 9) :
    Calls Tryz.prog 127 #[.slice A n c, .int .i64 256] w fun x w' => (∃ A' m lq, lq.length = m ∧ m ≤ n ∧ dv lq = dv l / 256 ∧ (∀ x ∈ lq, x ≤ 9) ∧ NoLead lq ∧ A' = some ⟨w.heap.size, 0, none⟩ ∧ Reads w' w'.heap.size A' m (u8s lq) ∧ x = .returned (.tuple #[.slice A' m n, .int .i64 ((dv l % 256 : Nat) : Int)])) ∧ Below w.heap.size w w' := by
  have hll : l.length = n := by have := hr.1; rwa [u8s_len] at this
  have hmk := fun W => make_bytes n (by omega) W
  obtain ⟨X, hX⟩ : ∃ X, w.heap.size = X := ⟨_, rfl⟩
  have HX := Lib.hid hX
  have HD := Lib.hid hd
  have HLL := Lib.hid hll
  rw [hX] at hr
  clear hd hll
  go_enter Tryz.func127, Tryz.ntmps127
  go_upto_block 0 with fail
  obtain ⟨w2, hw2⟩ : ∃ w2, w.alloc (.cells (u8s (List.replicate n 0)).toArray 5) = w2 := ⟨_, rfl⟩
  have hXc := heap_alloc_new w (.cells (u8s (List.replicate n 0)).toArray 5)
  have hb2 : Below X w w2 := by rw [← hw2, ← hX]; exact (Below.refl _ _).alloc (Nat.le_refl _) _
  have hs2 : w2.heap.size = X + 1 := by rw [← hw2, ← hX]; simp
  rw [hw2, hX] at hXc
  rw [hw2]
  have w0 : IntKind.i64.wrap ((n : Int) - 1) = (n : Int) - 1 := IntWalk.i64_in _ (by omega)
  clear hw2 hX
  go_wp2_with fail
  go_loopg [7, 8] n (fun f t7 t8 wx => ∃ (j : Nat) (lc : List Nat), t8 = .int .i64 ((j : Int) - 1) ∧ j = f ∧ j ≤ n ∧ lc.length = n ∧ t7 = .int .i64 ((dv (l.drop j) % 256 : Nat) : Int) ∧ dv (lc.drop j) = dv (l.drop j) / 256 ∧ (∀ x ∈ lc, x ≤ 9) ∧ wx.heap[X]? = some (.cells (u8s lc).toArray 5 (0, 0)) ∧ X + 1 ≤ wx.heap.size ∧ Below X w wx)
  case atStart =>
    have e : l.drop n = [] := List.drop_of_length_le (by rw [HLL.out]; exact Nat.le_refl _)
    refine ⟨n, List.replicate n 0, rfl, rfl, Nat.le_refl _, by simp, by rw [e]; rfl, ?_, fun x hx => by rw [List.mem_replicate] at hx; omega, hXc, by omega, hb2⟩
    rw [e, List.drop_of_length_le (by simp)]
    rfl
  case round =>
    obtain ⟨j, lc, rfl, rfl, hjn, hlc, rfl, hq, hdc, hXx, hsz, hbx⟩ := hrel
    cases j with
    | zero =>
      have n1 : decide ((0 : Int) ≤ ((0 : Nat) : Int) - 1) = false := by decide
      have n1b : decide ((0 : Int) ≤ -1) = false := by decide
      rw [List.drop_zero, List.drop_zero] at hq
      have hR := Reads.of_block hXx
      have hl2 : (u8s lc).length = n := by rw [u8s_len, hlc]
      rw [hl2] at hR
      have TR := Lib.hid (inttrim_any (some ⟨X, 0, none⟩) n n lc wr hR (Nat.le_refl _) (by omega))
      have HR := Lib.hid (And.intro hR (And.intro hq (And.intro hdc hlc)))
      obtain ⟨R, hRe⟩ : ∃ R, dv (l.drop 0) % 256 = R := ⟨_, rfl⟩
      rw [hRe]
      have HRE := Lib.hid hRe
      clear hR hl2 hXx hq hdc hlc hRe
      go_wp2_with fail
      refine (TR.out).mono ?_
      rintro x w7 ⟨⟨m, hm, rfl⟩, rfl⟩
      have HM := Lib.hid hm
      clear hm
      go_wp2_with fail
      go_ret2
      obtain ⟨p1, p2, p3, p4⟩ := HR.out
      have hm := HM.out
      rw [← p4] at hm
      refine ⟨⟨some ⟨X, 0, none⟩, m, lc.take m, ?_, HM.out.1, ?_, fun x hx => p3 x (List.mem_of_mem_take hx), noLead_trim hm, by rw [HX.out], ?_, ?_⟩, ?_⟩
      · rw [List.length_take]; have := hm.1; omega
      · rw [dv_trim hm]; exact p2
      · have h3 := p1.take m HM.out.1
        have e : (u8s lc).take m = u8s (lc.take m) := by simp [u8s, List.map_take]
        rw [e] at h3
        exact h3
      · rw [← HRE.out, List.drop_zero]
        rfl
      · first | exact hbx | (rw [HX.out]; exact hbx)
    | succ k =>
      obtain ⟨b, off, u, rfl, hbX, hu, hcell⟩ := (hr.below hbx).at_ (k := k) (by omega)
      obtain ⟨d, hdk, rfl⟩ := u8_at hu
      have hd9 := HD.out d (List.mem_of_getElem? hdk)
      obtain ⟨Q, hQ⟩ : ∃ Q, dv (l.drop (k + 1)) / 256 = Q := ⟨_, rfl⟩
      obtain ⟨R, hR⟩ : ∃ R, dv (l.drop (k + 1)) % 256 = R := ⟨_, rfl⟩
      have hR256 : R < 256 := by omega
      have hdr := dv_drop hdk
      obtain ⟨q1, hq1⟩ : ∃ q1, (10 * R + d) / 256 = q1 := ⟨_, rfl⟩
      obtain ⟨r1, hr1⟩ : ∃ r1, (10 * R + d) % 256 = r1 := ⟨_, rfl⟩
      have hnew : dv (l.drop k) % 256 = r1 ∧ dv (l.drop k) / 256 = q1 + 10 * Q := by omega
      have hq9 : q1 ≤ 9 := by omega
      rw [hQ] at hq
      rw [hR]
      have e8 : (((k + 1 : Nat) : Int) - 1) = (k : Int) := by omega
      rw [e8]
      have n1 : decide ((0 : Int) ≤ (k : Int)) = true := decide_eq_true (by omega)
      have hk0 : (0 : Int) ≤ (k : Int) := by omega
      have hkn : (k : Int) < (n : Int) := by omega
      have g1 : IntKind.i64.wrap (10 * (R : Int)) = 10 * (R : Int) := IntWalk.i64_in _ (by omega)
      have g0 : IntKind.i64.wrap (d : Int) = (d : Int) := IntWalk.i64_in _ (by omega)
      have g2 : IntKind.i64.wrap (10 * (R : Int) + (d : Int)) = 10 * (R : Int) + (d : Int) := IntWalk.i64_in _ (by omega)
      have g3 : Int.tdiv (10 * (R : Int) + (d : Int)) 256 = (q1 : Int) := by rw [Int.tdiv_eq_ediv_of_nonneg (by omega)]; omega
      have g4 : Int.tmod (10 * (R : Int) + (d : Int)) 256 = (r1 : Int) := by rw [Int.tmod_eq_emod_of_nonneg (by omega)]; omega
      have g3b : (10 * (R : Int) + (d : Int)) / 256 = (q1 : Int) := by omega
      have g4b : (10 * (R : Int) + (d : Int)) % 256 = (r1 : Int) := by omega
      have g5 : IntKind.i64.wrap (q1 : Int) = (q1 : Int) := IntWalk.i64_in _ (by omega)
      have g6 : IntKind.u8.wrap (q1 : Int) = (q1 : Int) := by rw [IntKind.wrap_u8]; omega
      have g7 : IntKind.i64.wrap (r1 : Int) = (r1 : Int) := IntWalk.i64_in _ (by omega)
      have g8 : IntKind.i64.wrap ((k : Int) - 1) = (k : Int) - 1 := IntWalk.i64_in _ (by omega)
      obtain ⟨uu, huu⟩ : ∃ uu, (u8s lc)[k]? = some uu := ⟨_, List.getElem?_eq_getElem (by rw [u8s_len]; omega)⟩
      have z0 := at_block hXx k uu (by simpa using huu)
      have fz0 := free_block hXx k
      have HXx := Lib.hid hXx
      have HN := Lib.hid (And.intro hnew (And.intro hq (And.intro hdc (And.intro hlc hq9))))
      clear hXx huu hnew hq hdc hlc hdr hQ hR hq1 hr1 hu hdk e8
      go_wp2_with fail
      go_roundg k
      case measure => omega
      case rel =>
        obtain ⟨⟨a1, a2⟩, a3, a4, a5, a6⟩ := HN.out
        refine ⟨k, lc.set k q1, rfl, rfl, by omega, by rw [List.length_set, a5], by rw [a1], ?_, ?_, ?_, ?_, ?_⟩
        · rw [dv_drop (d := q1) (by rw [List.getElem?_set_self (by omega)]), List.drop_set_of_lt (by omega), a3, a2]
        · intro x hx
          rcases List.mem_or_eq_of_mem_set hx with h | h
          · exact a4 x h
          · omega
        · rw [u8s_set]
          exact block_set HXx.out k _
        · simp [World.setCell]; omega
        · exact hbx.setCell (p := ⟨X, k, none⟩) (Nat.le_refl _) _
end Go.Proofs.YtjapgpmoojfhnaaGreatDoor

namespace Go.Proofs.YtjapgpmoojfhnaaGreatDoor
open Go.RowKit Go.Lib

set_option maxHeartbeats 1000000 in
set_option maxRecDepth 100000 in
theorem intvalid_good (s T : ByteArray) (g : Bool) (hp : ReadPre s T g) (w : World) : Calls Tryz.prog 80 #[.string s] w fun x w' => x = .returned (.bool true) ∧ Below w.heap.size w w' := by
  have RD := Lib.hid (fun W => intread_good s T g hp W)
  clear hp
  go_enter Tryz.func80, Tryz.ntmps80
  go_wp2_with fail
  refine (RD.out _).mono ?_
  rintro x w1 ⟨⟨A, m, _, _, rfl⟩, hb1⟩
  go_wp2_with fail
  go_ret
  exact ⟨rfl, hb1.alloc (by have := hb1.size; omega) _⟩
/-- Bytes, least significant first. -/
def Fl.byteL (u : Nat) : List Nat := if h : u = 0 then [] else (u % 256) :: Fl.byteL (u / 256)
termination_by u
decreasing_by omega
theorem Fl.byteL_zero : Fl.byteL 0 = [] := by rw [Fl.byteL]; rfl
theorem Fl.byteL_pos {u : Nat} (h : u ≠ 0) : Fl.byteL u = (u % 256) :: Fl.byteL (u / 256) := by rw [Fl.byteL, dif_neg h]
theorem Fl.byteL_byte : ∀ (f u : Nat), u < 256 ^ f → (Fl.byteL u).length ≤ f ∧ ∀ x ∈ Fl.byteL u, x < 256
  | 0, u, h => by
    have : u = 0 := by simpa using h
    subst this
    rw [Fl.byteL_zero]
    simp
  | f + 1, u, h => by
    by_cases h0 : u = 0
    · subst h0; rw [Fl.byteL_zero]; simp
    · obtain ⟨h1, h2⟩ := Fl.byteL_byte f (u / 256) (by rw [Nat.pow_succ] at h; omega)
      rw [Fl.byteL_pos h0]
      refine ⟨by rw [List.length_cons]; omega, fun x hx => ?_⟩
      rw [List.mem_cons] at hx
      rcases hx with hx | hx
      · omega
      · exact h2 x hx
theorem Reads.setOther {w : World} {B n : Nat} {A : Option Addr} {xs : List Value} (h : Reads w B A n xs) {p : Addr} (hA : ∀ b off, A = some ⟨b, off, none⟩ → b ≠ p.block) (u : Value) : Reads (w.setCell p u) B A n xs := by
  refine ⟨h.1, fun hn => ?_⟩
  obtain ⟨b, off, e, hb, hc⟩ := h.2 hn
  refine ⟨b, off, e, hb, fun j v hv => ?_⟩
  rw [← hc j v hv]
  have := Below.heap_setCell w p u b (hA b off e)
  unfold World.cell?
  simp only [this]
theorem fresh_row (W : World) (r : Nat) : (W.alloc (.cells #[.int .u8 (r : Int)] 5)).ownsRow W.heap.size 5 1 (.slice (some ⟨W.heap.size, 0, none⟩) 1 1) 1 [.int .u8 (r : Int)] :=
  ⟨rfl, Or.inr ⟨W.heap.size, 1, #[.int .u8 (r : Int)], rfl, Nat.le_refl _, heap_alloc_new W _, Nat.le_refl _, by unfold maxLen; omega, rfl, rfl⟩⟩
/-- What Magnitude holds from round to round. -/
structure MagHeld (w : World) (Y N L : Nat) (g : Bool) (f : Nat) (A Ao : Option Addr) (m c no : Nat) (wx : World) (V : Nat) (l o : List Nat) : Prop where
  blk : wx.heap[Y]? = some (.cells #[.bool g, .slice A m c] 163 (0, 0))
  rd : Reads wx wx.heap.size A m (u8s l)
  ne : ∀ b off, A = some ⟨b, off, none⟩ → b ≠ Y
  ro : Reads wx wx.heap.size Ao no (u8s o)
  neo : ∀ b off, Ao = some ⟨b, off, none⟩ → b ≠ Y
  mL : m ≤ L
  val : dv l = V
  nine : ∀ x ∈ l, x ≤ 9
  lead : NoLead l
  sum : o.reverse ++ Fl.byteL V = Fl.byteL N
  few : no + f = 200
  small : V < 256 ^ f
  base : w.heap.size ≤ Y
  hi : Y < wx.heap.size
  bel : Below w.heap.size w wx
set_option maxHeartbeats 4000000 in
set_option maxRecDepth 100000 in
theorem magnitude_good (s T : ByteArray) (g : Bool) (hp : ReadPre s T g) (w : World) (N : Nat) (hN : dv (ldig T) = N) (hN0 : 0 < N) (h256 : N < 256 ^ 200) : Calls Tryz.prog 81 #[.string s] w fun x w' => x = .returned (.string ⟨((Fl.byteL N).reverse.map UInt8.ofNat).toArray⟩) ∧ Below w.heap.size w w' := by
  obtain ⟨i0, hi, hz0, hz1, hz2⟩ := info_parts info5
  have RD := Lib.hid (fun W => intread_good s T g hp W)
  have hTle := hp.le
  have hld : (ldig T).length = T.size := by rw [ldig, List.length_reverse, List.length_map, ba_size]
  have hl9 : ∀ x ∈ ldig T, x ≤ 9 := fun x hx => by
    rw [ldig, List.mem_reverse, List.mem_map] at hx
    obtain ⟨b, hb, rfl⟩ := hx
    obtain ⟨i, hi⟩ := List.mem_iff_getElem?.1 hb
    have hiT : i < T.size := by
      rw [ba_size]
      rcases Nat.lt_or_ge i T.data.toList.length with h1 | h1
      · exact h1
      · rw [List.getElem?_eq_none h1] at hi; cases hi
    have h2 := byte_at hiT rfl
    rw [hi] at h2
    have h3 := (hp.digs i hiT).2
    rw [← Option.some.inj h2] at h3
    omega
  have HN := Lib.hid (And.intro hN (And.intro hld (And.intro hl9 (And.intro hN0 h256))))
  clear hp hN hld hl9 h256
  go_enter Tryz.func81, Tryz.ntmps81
  go_wp2_with fail
  refine (RD.out _).mono ?_
  rintro x w1 ⟨⟨A, m, hm, hr, rfl⟩, hb1⟩
  go_upto_block 0 with fail
  obtain ⟨Y, hY⟩ : ∃ Y, w1.heap.size = Y := ⟨_, rfl⟩
  obtain ⟨w2, hw2⟩ : ∃ w2, w1.alloc (.cells #[.bool g, .slice A m T.size] 163) = w2 := ⟨_, rfl⟩
  have hYc := heap_alloc_new w1 (.cells #[.bool g, .slice A m T.size] 163)
  have hb12 : Below w1.heap.size w1 w2 := by rw [← hw2]; exact (Below.refl _ _).alloc (Nat.le_refl _) _
  have hs2 : w2.heap.size = Y + 1 := by rw [← hw2, ← hY]; simp
  have hr2 := hr.on hb12
  rw [hw2] at hYc
  rw [hw2, hY]
  rw [hY] at hYc hr
  have start : MagHeld w Y N T.size g 200 A none m T.size 0 w2 N ((ldig T).take m) [] := by
    obtain ⟨n1, n2, n3, n4, n5⟩ := HN.out
    have hmT := hm
    rw [← n2] at hmT
    have hdv := dv_trim hmT
    refine ⟨hYc, hr2, ?_, Reads.none_, (fun b off h => by cases h), hm.1, by rw [hdv, n1], fun x hx => n3 x (List.mem_of_mem_take hx), noLead_trim hmT, rfl, rfl, n5, by have := hb1.size; omega, by omega, b_trans hb1 hb12⟩
    intro b off he
    have hm0 : 0 < m := by
      rcases Nat.eq_zero_or_pos m with h0 | h0
      · rw [h0, List.take_zero] at hdv
        have : dv [] = 0 := rfl
        omega
      · exact h0
    obtain ⟨b', off', he', hb', _⟩ := hr.2 hm0
    rw [he] at he'
    cases he'
    omega
  have ST := Lib.hid start
  clear start hw2 hY hYc hb12 hs2 hr hr2 hm hb1
  go_wp2_with fail
  go_loopg [5, 6] 200 (fun f t5 t6 wx => ∃ (A Ao : Option Addr) (m c no co V : Nat) (l o : List Nat), t5 = .slice Ao no co ∧ MagHeld w Y N T.size g f A Ao m c no wx V l o)
  case atStart => exact ⟨A, none, m, T.size, 0, 0, N, _, [], rfl, ST.out⟩
  case round =>
    obtain ⟨A, Ao, m, c, no, co, V, l, o, rfl, H⟩ := hrel
    obtain ⟨blk, rd, ne, ro, neo, mL, val, nine, lead, sum, few, small, base, hiY, bel⟩ := H
    have hll : l.length = m := by have := rd.1; rwa [u8s_len] at this
    have hoo : o.length = no := by have := ro.1; rwa [u8s_len] at this
    have y1 := at_block blk 1 _ rfl
    have fy1 := free_block blk 1
    obtain ⟨_, _, _, n4, n5⟩ := HN.out
    by_cases hm0 : m = 0
    · subst hm0
      have hV0 : V = 0 := by rw [← val, List.eq_nil_of_length_eq_zero hll]; rfl
      rw [hV0, Fl.byteL_zero, List.append_nil] at sum
      have hcv := conv_bytes (c := co) ro (fun h => by
        exfalso
        rw [List.eq_nil_of_length_eq_zero (hoo.trans h), List.reverse_nil, Fl.byteL_pos (by omega)] at sum
        cases sum)
      have hS : o = (Fl.byteL N).reverse := by rw [← sum, List.reverse_reverse]
      rw [hS] at hcv
      obtain ⟨S, hSe⟩ : ∃ S : ByteArray, (⟨((Fl.byteL N).reverse.map UInt8.ofNat).toArray⟩ : ByteArray) = S := ⟨_, rfl⟩
      rw [hSe] at hcv
      have HSE := Lib.hid hSe
      clear blk rd ne ro neo mL val nine lead sum few small base hiY hll hoo hS hSe n4 n5
      go_wp2_with fail
      go_ret
      exact ⟨by rw [HSE.out]; rfl, bel⟩
    · have hVp : 0 < V := by rw [← val]; exact dv_pos lead (fun h => by rw [h] at hll; simp at hll; omega)
      obtain ⟨f, rfl⟩ : ∃ f, gk = f + 1 := ⟨gk - 1, by
        rcases Nat.eq_zero_or_pos gk with h | h
        · subst h; simp at small; omega
        · omega⟩
      have c1 : decide (0 < m) = true := decide_eq_true (by omega)
      have c1b : decide ((0 : Int) < (m : Int)) = true := decide_eq_true (by omega)
      have SH := Lib.hid (short_any A m c l wr rd (by omega) nine)
      rw [val] at SH
      obtain ⟨r, hre⟩ : ∃ r, V % 256 = r := ⟨_, rfl⟩
      rw [hre] at SH
      have g1 : IntKind.u8.wrap (r : Int) = (r : Int) := by rw [IntKind.wrap_u8]; omega
      have HH := Lib.hid (And.intro ro (And.intro neo (And.intro mL (And.intro sum (And.intro few (And.intro small (And.intro hVp (And.intro hre hoo))))))))
      have HB := Lib.hid blk
      clear rd ne ro neo mL val nine lead sum small hll hoo hre n4 n5 blk
      go_wp2_with fail
      refine (SH.out).mono ?_
      rintro x w3 ⟨⟨A3, m3, lq, a1, a2, a3, a4, a5, a6, a7, rfl⟩, hb3⟩
      have hY3 := (hb3.block Y hiY).trans HB.out
      clear y1 fy1
      have y1 := at_block hY3 1 _ rfl
      have fy1 := free_block hY3 1
      have HQ := Lib.hid (And.intro a1 (And.intro a2 (And.intro a3 (And.intro a4 (And.intro a5 (And.intro a6 a7))))))
      have HY3 := Lib.hid hY3
      have hsz3 := hb3.size
      clear a1 a2 a3 a4 a5 a6 a7 hY3
      go_upto_region 8 with fail
      obtain ⟨w4, hw4⟩ : ∃ w4, w3.setCell ⟨Y, 1, none⟩ (.slice A3 m3 m) = w4 := ⟨_, rfl⟩
      obtain ⟨p1, p2, p3, p4, p5, p6, p7, p8, p9⟩ := HH.out
      obtain ⟨a1, a2, a3, a4, a5, a6, a7⟩ := HQ.out
      have hne3 : ∀ b off, A3 = some ⟨b, off, none⟩ → b ≠ Y := fun b off he => by rw [a6] at he; cases he; omega
      have hs4 : w4.heap.size = w3.heap.size := by rw [← hw4]; simp [World.setCell]
      have blk4 : w4.heap[Y]? = some (.cells #[.bool g, .slice A3 m3 m] 163 (0, 0)) := by rw [← hw4]; exact block_set HY3.out 1 _
      have rd4 : Reads w4 w4.heap.size A3 m3 (u8s lq) := by rw [hs4, ← hw4]; exact a7.setOther hne3 _
      have ro4 : Reads w4 w4.heap.size Ao no (u8s o) := by rw [hs4, ← hw4]; exact (p1.on hb3).setOther p2 _
      have bel4 : Below w.heap.size w w4 := by rw [← hw4]; exact (b_trans bel hb3).setCell (p := ⟨Y, 1, none⟩) base _
      rw [hw4]
      have hone := u8s_one o
      obtain ⟨VV, hVV⟩ : ∃ VV, u8s o = VV := ⟨_, rfl⟩
      rw [hVV] at ro4 hone
      have hown4 := fresh_row w4 r
      have fin : ∀ (A5 : Option Addr) (c5 : Nat) (w5 : World), w5.ownsRow w4.heap.size 5 1 (.slice A5 (1 + no) c5) (1 + no) ([.int .u8 (r : Int)] ++ VV) → Below w4.heap.size w4 w5 → MagHeld w Y N T.size g f A3 A5 m3 m (1 + no) w5 (V / 256) lq (r :: o) := fun A5 c5 w5 ho hb => by
        have hroA : ∀ b off, A5 = some ⟨b, off, none⟩ → b ≠ Y := fun b off he => by
          rcases ho.2 with ⟨hv, h0⟩ | ⟨g', cap, cur, hv, hbase, _⟩
          · omega
          · rw [he] at hv
            injection hv with hv1
            cases hv1
            omega
        have e1 : u8s (r :: o) = [.int .u8 (r : Int)] ++ VV := by rw [← hVV]; rfl
        refine ⟨(hb.block Y (by omega)).trans blk4, rd4.on hb, hne3, ?_, hroA, by omega, a3, a4, a5, ?_, by omega, by rw [Nat.pow_succ] at p6; omega, base, by have := hb.size; omega, b_trans bel4 hb⟩
        · rw [e1]; exact Reads.of_own ho
        · rw [← p4, Fl.byteL_pos (show V ≠ 0 by omega), p8, List.reverse_cons, List.append_assoc]; rfl
      have FIN := Lib.hid fin
      clear fin hw4 p1 p2 p3 p4 p5 p6 p7 p8 p9 a1 a2 a3 a4 a5 a6 a7 hne3 blk4 rd4 bel4 bel hVV y1 fy1 hs4 hsz3 hiY hb3
      have hno : no ≤ 200 := by have := HH.out.2.2.2.2.1; omega
      go_wp2_with (at_builtin; refine wpList_append_any _ rfl _ _ 31 rfl w4.heap.size 5 i0 (.int .u8 0) 1 Tryz.underlying31 hi hz0 hz1 hz2 rfl _ 1 [.int .u8 (r : Int)] rfl hown4 _ Ao no co VV rfl (ro4.alloc (Nat.le_refl _) _) hone ?c3 ?c4 (by simp) ?_)
      case c3 => unfold maxLen; omega
      case c4 => omega
      intro v' w5 hown5 hgr5
      have hb5 : Below w4.heap.size w4 w5 := ((Below.refl _ _).alloc (Nat.le_refl _) _).grown hgr5 (by simp) (fun k hk => (hown4.lt k hk).1)
      obtain ⟨A5, c5, rfl, _, _⟩ := own_slice hown5
      have H5 := Lib.hid (FIN.out A5 c5 w5 hown5 hb5)
      clear hgr5 hown5 hown4 hb5 ro4 hone
      go_wp2_with fail
      go_roundg f
      case measure => omega
      case rel => exact ⟨A3, A5, m3, m, 1 + no, c5, V / 256, lq, r :: o, rfl, H5.out⟩
end Go.Proofs.YtjapgpmoojfhnaaGreatDoor

namespace Go.Proofs.YtjapgpmoojfhnaaGreatDoor
open Go.RowKit Go.Lib

theorem Fl.byteL_get : ∀ (k u : Nat), u / 256 ^ k ≠ 0 → (Fl.byteL u)[k]? = some (u / 256 ^ k % 256)
  | 0, u, h => by
    rw [Nat.pow_zero, Nat.div_one] at h ⊢
    rw [Fl.byteL_pos h]
    rfl
  | k + 1, u, h => by
    have e : u / 256 ^ (k + 1) = u / 256 / 256 ^ k := by rw [Nat.pow_succ, Nat.mul_comm, Nat.div_div_eq_div_mul]
    have h0 : u ≠ 0 := fun h' => h (by rw [h']; simp)
    rw [e] at h ⊢
    rw [Fl.byteL_pos h0, List.getElem?_cons_succ]
    exact Fl.byteL_get k (u / 256) h
theorem Fl.byteL_end : ∀ (n u : Nat), (Fl.byteL u).length = n → u / 256 ^ n = 0 ∧ ∀ k, k < n → u / 256 ^ k ≠ 0
  | 0, u, h => by
    have : u = 0 := by
      by_cases h0 : u = 0
      · exact h0
      · rw [Fl.byteL_pos h0] at h; simp at h
    subst this
    exact ⟨by simp, fun k hk => by omega⟩
  | n + 1, u, h => by
    have h0 : u ≠ 0 := fun h' => by rw [h', Fl.byteL_zero] at h; simp at h
    rw [Fl.byteL_pos h0, List.length_cons] at h
    obtain ⟨h1, h2⟩ := Fl.byteL_end n (u / 256) (by omega)
    have e : ∀ k, u / 256 ^ (k + 1) = u / 256 / 256 ^ k := fun k => by rw [Nat.pow_succ, Nat.mul_comm, Nat.div_div_eq_div_mul]
    refine ⟨by rw [e]; exact h1, fun k hk => ?_⟩
    cases k with
    | zero => rw [Nat.pow_zero, Nat.div_one]; exact h0
    | succ k => rw [e]; exact h2 k (by omega)
/-- What the loop of binary.Of holds behind k bytes. -/
structure Gath (N k z m : Nat) : Prop where
  zk : z ≤ k
  k8 : k - z ≤ 8
  lt : m < 256 ^ (k - z)
  sum : m * 256 ^ z + N / 256 ^ k * 256 ^ k = N
  zero : m = 0 → k = z
  low : m ≠ 0 → m % 256 ≠ 0
theorem Gath.start (N : Nat) : Gath N 0 0 0 := ⟨Nat.le_refl _, by simp, by simp, by simp, fun _ => rfl, fun h => absurd rfl h⟩
theorem div_next (N k : Nat) : N / 256 ^ (k + 1) = N / 256 ^ k / 256 := by rw [Nat.pow_succ, Nat.div_div_eq_div_mul]
theorem Gath.skip {N k z m : Nat} (h : Gath N k z m) (h0 : m = 0) (hd : N / 256 ^ k % 256 = 0) : Gath N (k + 1) (z + 1) m := by
  obtain ⟨h1, h2, h3, h4, h5, h6⟩ := h
  have hk := h5 h0
  subst hk
  refine ⟨by omega, by omega, by rw [h0]; exact Nat.pow_pos (by omega), ?_, fun _ => rfl, h6⟩
  subst h0
  rw [Nat.zero_mul, Nat.zero_add] at h4 ⊢
  rw [div_next, Nat.pow_succ, Nat.mul_comm (256 ^ k) 256, ← Nat.mul_assoc]
  rw [show N / 256 ^ k / 256 * 256 = N / 256 ^ k by omega]
  exact h4
theorem Gath.take {N k z m : Nat} (h : Gath N k z m) (hk8 : k - z < 8) (hd : m = 0 → N / 256 ^ k % 256 ≠ 0) : Gath N (k + 1) z (m + N / 256 ^ k % 256 * 256 ^ (k - z)) := by
  obtain ⟨h1, h2, h3, h4, h5, h6⟩ := h
  obtain ⟨j, rfl⟩ : ∃ j, k = z + j := ⟨k - z, by omega⟩
  rw [show z + j - z = j by omega] at h2 h3 hk8 ⊢
  obtain ⟨D, hD⟩ : ∃ D, N / 256 ^ (z + j) = D := ⟨_, rfl⟩
  rw [hD] at h4 hd ⊢
  have e1 : z + j + 1 - z = j + 1 := by omega
  have hpos : 0 < 256 ^ j := Nat.pow_pos (by omega)
  have hdm : D % 256 < 256 := Nat.mod_lt _ (by omega)
  refine ⟨by omega, by omega, ?_, ?_, ?_, ?_⟩
  · rw [e1, Nat.pow_succ]
    have : D % 256 * 256 ^ j ≤ 255 * 256 ^ j := Nat.mul_le_mul_right _ (by omega)
    omega
  · rw [div_next, hD, Nat.add_mul, Nat.mul_assoc, ← Nat.pow_add, Nat.add_comm j z, Nat.pow_succ, Nat.mul_comm (256 ^ (z + j)) 256, ← Nat.mul_assoc (D / 256) 256, Nat.add_assoc, ← Nat.add_mul]
    rw [show D % 256 + D / 256 * 256 = D by omega]
    exact h4
  · intro h0
    exfalso
    have hm : m = 0 := by omega
    have h7 := hd hm
    have : 0 < D % 256 * 256 ^ j := Nat.mul_pos (by omega) hpos
    omega
  · intro _
    by_cases hm : m = 0
    · have h7 := hd hm
      have hj : j = 0 := by have := h5 hm; omega
      subst hj
      rw [hm, Nat.pow_zero, Nat.mul_one]
      omega
    · have h7 := h6 hm
      have hj : j ≠ 0 := fun h => by rw [h] at h3; simp at h3; exact hm h3
      obtain ⟨i, rfl⟩ : ∃ i, j = i + 1 := ⟨j - 1, by omega⟩
      rw [Nat.pow_succ, ← Nat.mul_assoc]
      omega
end Go.Proofs.YtjapgpmoojfhnaaGreatDoor
