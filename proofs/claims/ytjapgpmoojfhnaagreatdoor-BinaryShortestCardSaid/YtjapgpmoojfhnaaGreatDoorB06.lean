/- The reference: the text of an integer. The reference: trim, signed, Neg at digits without leading zeros. The reference: the text of zero, Neg, small. Rows of limbs of nine digits: what a round of product does with them, and the text of such a row. The reference: the text of a float. -/
import Derived.Test.YtjapgpmoojfhnaaGreatDoorB01
import Derived.Test.YtjapgpmoojfhnaaGreatDoorB05
import Derived.Lib.TrimByte
import Derived.Lib.Repeat
import Derived.Deep.RegionHeld3
namespace Go.Proofs.YtjapgpmoojfhnaaGreatDoor
open Go.RowKit Go.Lib

namespace Fl
def pm (neg : Bool) : List Nat := if neg = true then [45] else []
/-- The text of an integer, as numbers. -/
def intN (neg : Bool) (l : List Nat) : List Nat := pm neg ++ l.reverse.map (48 + ·)
end Fl
set_option maxHeartbeats 1000000 in
set_option maxRecDepth 100000 in
theorem inttext_any (neg : Bool) (A : Option Addr) (n c : Nat) (l : List Nat) (w : World) (hr : Reads w w.heap.size A n (u8s l)) (hd : ∀ x ∈ l, x < 10) (hn : n ≤ 100000) (hn0 : 0 < n) :
    Calls Tryz.prog 19 #[.agg #[.bool neg, .slice A n c]] w fun x w' => x = .returned (.string ⟨((Fl.intN neg l).map UInt8.ofNat).toArray⟩) ∧ Below w.heap.size w w' := by
  have hln : l.length = n := by have := hr.1; rwa [u8s_len] at this
  obtain ⟨i0, hi, hz0, hz1, hz2⟩ := info_parts info5
  obtain ⟨w2, hw2⟩ : ∃ w2 : World, w.alloc (.cells #[.bool neg, .slice A n c] 33) = w2 := ⟨_, rfl⟩
  obtain ⟨X, hX⟩ : ∃ X, w.heap.size = X := ⟨_, rfl⟩
  have hXc := heap_alloc_new w (.cells #[.bool neg, .slice A n c] 33)
  have hb2 : Below w.heap.size w w2 := by rw [← hw2]; exact (Below.refl _ _).alloc (Nat.le_refl _) _
  have hs2 : w2.heap.size = X + 1 := by rw [← hw2, ← hX]; simp
  rw [hw2, hX] at hXc
  have hr2 := hr.below hb2
  rw [hX] at hb2 hr2
  have hn1 : ((n : Int) == 0) = false := by rw [beq_eq_false_iff_ne]; omega
  have hw1 : IntKind.i64.wrap ((n : Int) - 1) = (n : Int) - 1 := IntWalk.i64_in _ (by omega)
  have HC : ∀ W, Below (X + 1) w2 W → W.cell? ⟨X, 0, none⟩ = some (.bool neg) ∧ W.cell? ⟨X, 1, none⟩ = some (.slice A n c) := fun W hW => by
    have h := (hW.block X (by omega)).trans hXc
    exact ⟨at_block h 0 _ rfl, at_block h 1 _ rfl⟩
  have HC := Lib.hid HC
  have HW2 := Lib.hid hw2
  have HX := Lib.hid hX
  have HLN := Lib.hid hln
  have hdd : Below (X + 1) w2 w2 := Below.refl _ _
  obtain ⟨x0, x1⟩ := HC.out w2 hdd
  have HS2 := Lib.hid hs2
  clear hw2 hX hXc hr hln hs2
  go_enter Tryz.func19, Tryz.ntmps19
  go_upto_region 1 with fail
  rw [HW2.out, HX.out]
  go_upto_if 10 with fail
  go_cut [3] (fun v wx => wx.ownsRow (X + 1) 5 1 v (Fl.pm neg).length (u8s (Fl.pm neg)) ∧ Below (X + 1) w2 wx)
  case first =>
    cases neg with
    | true =>
      have hnil : w2.ownsRow (X + 1) 5 1 (.slice none 0 0) 0 [] := World.ownsRow_nil _ _ _ _
      go_wp2_with (at_builtin; refine wpList_append_own _ rfl _ _ 31 rfl (X + 1) 5 i0 (.int .u8 0) 1 1 Tryz.underlying31 hi hz0 hz1 hz2 rfl (by decide) _ _ _ rfl (hnil.alloc _) ⟨w2.heap.size, 0, none⟩ 1 1 [.int .u8 45] rfl rfl ?c1 ?c2 ?c3 ?c4 ?c5 ?_)
      case c1 =>
        intro j u' hj
        match j, hj with
        | 0, hj => simp at hj; subst hj; simp [Addr.add]
      case c2 => intro u' hu'; simp at hu'; subst hu'; rfl
      case c3 => unfold maxLen; omega
      case c4 => omega
      case c5 => have := HS2.out; simp; omega
      intro v' w3 hown3 hgr3 _
      have hb3 : Below (X + 1) w2 w3 := ((Below.refl _ _).alloc (by have := HS2.out; omega) _).grown hgr3 (by have := HS2.out; simp; omega) (fun k hk => by simp [Value.ownBlock] at hk)
      go_wp2_with fail
      go_meet
      exact ⟨hown3, hb3⟩
    | false =>
      go_wp2_with fail
      go_meet
      exact ⟨World.ownsRow_nil _ _ _ _, hdd⟩
  case rest =>
    obtain ⟨hown, hb3⟩ := hcut
    obtain ⟨w3, hw3⟩ : ∃ W, W = wc := ⟨_, rfl⟩
    subst hw3
    obtain ⟨P, hP⟩ : ∃ P, Fl.pm neg = P := ⟨_, rfl⟩
    have hPl : P.length ≤ 1 := by rw [← hP]; unfold Fl.pm; split <;> simp
    rw [hP] at hown
    have HP := Lib.hid hP
    have hX1 : X + 1 ≤ w3.heap.size := by have := hb3.size; rw [HS2.out] at this; exact this
    clear x0 x1 hP
    obtain ⟨x0, x1⟩ := HC.out w3 hb3
    obtain ⟨A3, c3, rfl⟩ := own_form hown
    obtain ⟨p, hp⟩ : ∃ p, P.length = p := ⟨_, rfl⟩
    rw [hp] at hown hPl ⊢
    have HPP := Lib.hid hp
    clear hp
    go_wp2_with fail
    go_loopg [3, 4] n (fun f t3 t4 wx => ∃ (q k : Nat) (j : Int) (v : Value), t3 = v ∧ t4 = .int .i64 j ∧ j = (q : Int) - 1 ∧ q ≤ n ∧ q ≤ f ∧ k + q = p + n ∧ wx.ownsRow (X + 1) 5 1 v k (u8s (P ++ (l.drop q).reverse.map (48 + ·))) ∧ X + 1 ≤ wx.heap.size ∧ Below (X + 1) w2 wx)
    case atStart =>
      refine ⟨n, p, (n : Int) - 1, _, rfl, rfl, rfl, Nat.le_refl _, Nat.le_refl _, rfl, ?_, hX1, hb3⟩
      rw [List.drop_eq_nil_of_le (by rw [HLN.out]; exact Nat.le_refl _)]
      simpa using hown
    case round =>
      obtain ⟨q, k, j, v, rfl, rfl, hj, hqn, hqf, hkq, hown4, hX4, hbx⟩ := hrel
      clear x0 x1
      obtain ⟨x0, x1⟩ := HC.out wr hbx
      cases q with
      | zero =>
        obtain rfl : j = -1 := by omega
        obtain ⟨A4, c4, rfl⟩ := own_form hown4
        have hrd := Reads.of_own hown4
        rw [List.drop_zero] at hrd
        have hk0 : 0 < k := by omega
        have hcv := conv_bytes (c := c4) hrd (fun h => by omega)
        have e : P ++ l.reverse.map (48 + ·) = Fl.intN neg l := by rw [Fl.intN, HP.out]
        rw [e] at hcv
        obtain ⟨T, hT⟩ : ∃ T : ByteArray, ⟨((Fl.intN neg l).map UInt8.ofNat).toArray⟩ = T := ⟨_, rfl⟩
        rw [hT] at hcv
        have HT := Lib.hid hT
        clear hown hown4 hrd e hT hj
        go_wp2_with fail
        go_ret
        refine ⟨by rw [HT.out]; rfl, ?_⟩
        rw [HX.out]
        exact hb2.trans (hbx.mono (by omega))
      | succ r =>
        obtain ⟨f, rfl⟩ : ∃ f, gk = f + 1 := ⟨gk - 1, by omega⟩
        obtain rfl : j = (r : Int) := by omega
        have hrn : r < n := by omega
        have hr0 : (0 : Int) ≤ (r : Int) := by omega
        have hrni : (r : Int) < (n : Int) := by omega
        obtain ⟨b, off, u, rfl, _, hu, hcell⟩ := (hr2.below (hbx.mono (by omega))).at_ (k := r) hrn
        obtain ⟨d, hd1, rfl⟩ := u8_at hu
        have hd10 : d < 10 := hd d (List.mem_of_getElem? hd1)
        obtain ⟨D, hD⟩ : ∃ D, 48 + d = D := ⟨_, rfl⟩
        have hDi : (48 : Int) + (d : Int) = (D : Int) := by omega
        have hDw : IntKind.u8.wrap (D : Int) = (D : Int) := by rw [IntKind.wrap_u8]; omega
        have hrw : IntKind.i64.wrap ((r : Int) - 1) = (r : Int) - 1 := IntWalk.i64_in _ (by omega)
        have hstep : P ++ (l.drop r).reverse.map (48 + ·) = (P ++ (l.drop (r + 1)).reverse.map (48 + ·)) ++ [D] := by
          obtain ⟨h1, h2⟩ := List.getElem?_eq_some_iff.1 hd1
          rw [List.drop_eq_getElem_cons h1, h2, List.reverse_cons, List.map_append, ← hD, List.append_assoc]
          rfl
        have HST := Lib.hid hstep
        have HH := Lib.hid (And.intro hd1 hu)
        clear hstep hd1 hu hD hj
        go_wp2_with (at_builtin; refine wpList_append_own _ rfl _ _ 31 rfl (X + 1) 5 i0 (.int .u8 0) 1 1 Tryz.underlying31 hi hz0 hz1 hz2 rfl (by decide) _ _ _ rfl (hown4.alloc _) ⟨wr.heap.size, 0, none⟩ 1 1 [.int .u8 (D : Int)] rfl rfl ?c1 ?c2 ?c3 ?c4 ?c5 ?_)
        case c2 => rfl
        case c3 => unfold maxLen; omega
        case c4 => omega
        case c5 => first | omega | (simp; omega)
        intro v' w5 hown5 hgr5 _
        have hb5 : Below (X + 1) wr w5 := ((Below.refl _ _).alloc hX4 _).grown hgr5 (by simp; omega) (fun k hk => (hown4.lt k hk).1)
        have HOW5 := Lib.hid hown5
        clear hgr5 hown4 hown5 hcell
        go_wp2_with fail
        go_roundg f
        case measure => omega
        case rel =>
          refine ⟨r, k + 1, (r : Int) - 1, v', rfl, rfl, rfl, by omega, by omega, by omega, ?_, by have := hb5.size; omega, hbx.trans hb5⟩
          rw [HST.out]
          have e : ∀ a : List Nat, u8s (a ++ [D]) = u8s a ++ [.int .u8 (D : Int)] := fun a => by simp [u8s]
          rw [e]
          have h := HOW5.out
          simpa using h
end Go.Proofs.YtjapgpmoojfhnaaGreatDoor

namespace Go.Proofs.YtjapgpmoojfhnaaGreatDoor
open Go.RowKit Go.Lib

set_option maxHeartbeats 1000000 in
set_option maxRecDepth 100000 in
theorem trim_id (A : Option Addr) (n c : Nat) (l : List Nat) (d : Nat) (w : World) (hr : Reads w w.heap.size A n (u8s l)) (hn0 : 0 < n) (hn : n ≤ c) (hc : n ≤ 1073741824) (hl : l[n - 1]? = some d) (hd : d ≠ 0) :
    Calls Tryz.prog 85 #[.slice A n c] w fun x w' => x = .returned (.slice A n c) ∧ w' = w := by
  obtain ⟨b, off, u, rfl, _, hu, hcell⟩ := hr.at_ (k := n - 1) (by omega)
  obtain ⟨x, hx, rfl⟩ := u8_at hu
  obtain rfl : x = d := by rw [hl] at hx; exact (Option.some.inj hx).symm
  obtain ⟨q, rfl⟩ : ∃ q, n = q + 1 := ⟨n - 1, by omega⟩
  rw [Nat.add_sub_cancel] at hcell
  have h1 : (0 : Int) < ((q + 1 : Nat) : Int) := by omega
  have h2 : IntKind.i64.wrap (((q + 1 : Nat) : Int) - 1) = (q : Int) := by have := IntWalk.i64_in (((q + 1 : Nat) : Int) - 1) (by omega); rw [this]; omega
  have h3 : ((x : Int) == 0) = false := by rw [beq_eq_false_iff_ne]; omega
  have h4 : (0 : Int) ≤ (q : Int) := by omega
  have h5 : (q : Int) < ((q + 1 : Nat) : Int) := by omega
  obtain ⟨N, hN⟩ : ∃ N, q + 1 = N := ⟨_, rfl⟩
  rw [hN] at h1 h2 h5 hn ⊢
  have h6 : (N : Int) ≤ (c : Int) := by omega
  clear hr hu hl hx hd hN hn0
  go_enter Tryz.func85, Tryz.ntmps85
  go_wp2_with fail
  go_loopg [3] 1 (fun f t wx => t = .int .i64 (N : Int) ∧ wx = w)
  case atStart => exact ⟨rfl, rfl⟩
  case round =>
    obtain ⟨rfl, rfl⟩ := hrel
    go_wp2_with fail
    go_ret
    exact ⟨rfl, rfl⟩
set_option maxHeartbeats 1000000 in
set_option maxRecDepth 100000 in
theorem signed_id (A : Option Addr) (n c : Nat) (l : List Nat) (d : Nat) (neg : Bool) (w : World) (hr : Reads w w.heap.size A n (u8s l)) (hn0 : 0 < n) (hn : n ≤ c) (hc : n ≤ 1073741824) (hl : l[n - 1]? = some d) (hd : d ≠ 0) :
    Calls Tryz.prog 97 #[.slice A n c, .bool neg] w fun x w' => x = .returned (.agg #[.bool neg, .slice A n c]) ∧ Below w.heap.size w w' := by
  have TR := fun W hW => trim_id A n c l d W hW hn0 hn hc hl hd
  have hi : (0 : Int) < (n : Int) := by omega
  obtain ⟨w2, hw2⟩ : ∃ w2 : World, w.alloc (.cells #[.bool false, .slice none 0 0] 33) = w2 := ⟨_, rfl⟩
  obtain ⟨X, hX⟩ : ∃ X, w.heap.size = X := ⟨_, rfl⟩
  have hXc := heap_alloc_new w (.cells #[.bool false, .slice none 0 0] 33)
  have hb2 : Below w.heap.size w w2 := by rw [← hw2]; exact (Below.refl _ _).alloc (Nat.le_refl _) _
  rw [hw2, hX] at hXc
  have hr2 := hr.on hb2
  rw [hX] at hb2
  have HW2 := Lib.hid hw2
  have HX := Lib.hid hX
  have TR := Lib.hid (TR w2 hr2)
  have x0 := at_block hXc 0 _ rfl
  have x1 := at_block hXc 1 _ rfl
  have f0 := free_block hXc 0
  have f1 := free_block hXc 1
  clear hw2 hX hXc hr hr2
  go_enter Tryz.func97, Tryz.ntmps97
  go_upto_region 1 with fail
  rw [HW2.out, HX.out]
  go_wp2_with fail
  refine (TR.out).mono ?_
  rintro x w3 ⟨rfl, rfl⟩
  cases neg with
  | true =>
    go_wp2_with fail
    refine bodyPost_ret (v := .agg #[.bool true, .slice A n c]) (by simp [results, Tryz.results97, go_sem, x0, x1]) rfl ?_
    refine ⟨rfl, ?_⟩
    rw [HX.out]
    exact (hb2.setCell (p := ⟨X, 0, none⟩) (Nat.le_refl _) _).setCell (p := ⟨X, 1, none⟩) (Nat.le_refl _) _
  | false =>
    go_wp2_with fail
    refine bodyPost_ret (v := .agg #[.bool false, .slice A n c]) (by simp [results, Tryz.results97, go_sem, x0, x1]) rfl ?_
    refine ⟨rfl, ?_⟩
    rw [HX.out]
    exact (hb2.setCell (p := ⟨X, 0, none⟩) (Nat.le_refl _) _).setCell (p := ⟨X, 1, none⟩) (Nat.le_refl _) _
end Go.Proofs.YtjapgpmoojfhnaaGreatDoor

namespace Go.Proofs.YtjapgpmoojfhnaaGreatDoor
open Go.RowKit Go.Lib

namespace Fl
theorem digL_facts : ∀ {u : Nat}, u ≠ 0 → (0 < (digL u).length ∧ (digL u).length ≤ u ∧ (∀ x ∈ digL u, x < 10) ∧ (∃ d, (digL u)[(digL u).length - 1]? = some d ∧ d ≠ 0) ∧ decDigits u = (digL u).reverse.map fun x => UInt8.ofNat (48 + x)) := by
  intro u
  induction u using Nat.strongRecOn with
  | _ u ih =>
    intro h
    rw [digL_pos h]
    by_cases h2 : u / 10 = 0
    · rw [h2, digL_zero]
      refine ⟨by simp, by simp; omega, ?_, ⟨u % 10, by simp, by omega⟩, ?_⟩
      · intro x hx
        simp at hx
        omega
      · rw [decDigits_one (show u < 10 by omega), show u % 10 = u by omega]
        rfl
    · obtain ⟨a1, a2, a3, ⟨d, a4, a5⟩, a6⟩ := ih (u / 10) (by omega) h2
      refine ⟨by simp, by rw [List.length_cons]; omega, ?_, ⟨d, ?_, a5⟩, ?_⟩
      · intro x hx
        rcases List.mem_cons.1 hx with rfl | hx
        · omega
        · exact a3 x hx
      · rw [List.length_cons, Nat.add_sub_cancel]
        obtain ⟨k, hk⟩ : ∃ k, (digL (u / 10)).length = k + 1 := ⟨(digL (u / 10)).length - 1, by omega⟩
        rw [hk, List.getElem?_cons_succ]
        rw [hk, Nat.add_sub_cancel] at a4
        exact a4
      · rw [decDigits, dif_neg (by omega), a6, List.reverse_cons, List.map_append]
        rfl
theorem intN_is {u : Nat} (h : u ≠ 0) (neg : Bool) : ((intN neg (digL u)).map UInt8.ofNat) = (if neg = true then [45] else []) ++ decDigits u := by
  rw [(digL_facts h).2.2.2.2]
  unfold intN pm
  cases neg <;> simp
end Fl
set_option maxHeartbeats 1000000 in
set_option maxRecDepth 100000 in
theorem inttext_zero (neg : Bool) (A : Option Addr) (c : Nat) (w : World) : Calls Tryz.prog 19 #[.agg #[.bool neg, .slice A 0 c]] w fun x w' => x = .returned (.string ⟨#[48]⟩) ∧ Below w.heap.size w w' := by
  go_enter Tryz.func19, Tryz.ntmps19
  go_wp2_with fail
  go_ret
  exact ⟨rfl, (Below.refl _ _).alloc (Nat.le_refl _) _⟩
/-- of64, then Text. -/
theorem ofText (u : Nat) (hu : u < 18446744073709551616) (w : World) : Calls Tryz.prog 50 #[.int .u64 (u : Int)] w fun x w' => ∃ A n c, x = .returned (.agg #[.bool false, .slice A n c]) ∧ Below w.heap.size w w' ∧
    (∀ W, Below w'.heap.size w' W → Calls Tryz.prog 19 #[.agg #[.bool false, .slice A n c]] W fun y W' => y = .returned (.string ⟨(decDigits u).toArray⟩) ∧ Below W.heap.size W W') ∧
    (u ≠ 0 → ∀ W, Below w'.heap.size w' W → Calls Tryz.prog 97 #[.slice A n c, .bool true] W fun y W' => y = .returned (.agg #[.bool true, .slice A n c]) ∧ Below W.heap.size W W') ∧
    (u ≠ 0 → ∀ W, Below w'.heap.size w' W → Calls Tryz.prog 19 #[.agg #[.bool true, .slice A n c]] W fun y W' => y = .returned (.string ⟨(45 :: decDigits u).toArray⟩) ∧ Below W.heap.size W W') := by
  refine (of64_any u w hu).mono ?_
  rintro x w' ⟨v, rfl, ho, hb⟩
  obtain ⟨A, c, rfl, hnc, hr⟩ := own_slice ho
  refine ⟨A, _, c, rfl, hb, fun W hW => ?_, fun h0 W hW => ?_, fun h0 W hW => ?_⟩
  · by_cases h0 : u = 0
    · subst h0
      rw [Fl.digL_zero]
      have h := inttext_zero false A c W
      rw [show (⟨#[48]⟩ : ByteArray) = ⟨(decDigits 0).toArray⟩ by rw [decDigits_one (by omega)]; rfl] at h
      exact h
    · obtain ⟨a1, a2, a3, _, _⟩ := Fl.digL_facts h0
      have hlen : (Fl.digL u).length ≤ 100000 := by
        have h1 := (Fl.digL_facts h0).2.2.2.2
        have h2 := congrArg List.length h1
        rw [List.length_map, List.length_reverse, Lib.decDigits_length] at h2
        have := Lib.numDigits_eq u (by omega) hu
        split at this <;> omega
      have h := inttext_any false A _ c (Fl.digL u) W (hr.on hW) a3 hlen a1
      rw [Fl.intN_is h0] at h
      exact h
  · obtain ⟨a1, a2, a3, ⟨d, a4, a5⟩, _⟩ := Fl.digL_facts h0
    have hlen : (Fl.digL u).length ≤ 1073741824 := by
      have h1 := (Fl.digL_facts h0).2.2.2.2
      have h2 := congrArg List.length h1
      rw [List.length_map, List.length_reverse, Lib.decDigits_length] at h2
      have := Lib.numDigits_eq u (by omega) hu
      split at this <;> omega
    exact signed_id A _ c (Fl.digL u) d true W (hr.on hW) a1 hnc hlen a4 a5
  · obtain ⟨a1, a2, a3, _, _⟩ := Fl.digL_facts h0
    have hlen : (Fl.digL u).length ≤ 100000 := by
      have h1 := (Fl.digL_facts h0).2.2.2.2
      have h2 := congrArg List.length h1
      rw [List.length_map, List.length_reverse, Lib.decDigits_length] at h2
      have := Lib.numDigits_eq u (by omega) hu
      split at this <;> omega
    have h := inttext_any true A _ c (Fl.digL u) W (hr.on hW) a3 hlen a1
    rw [Fl.intN_is h0] at h
    exact h
theorem two_blocks (w : World) (o o' : Obj) : ((w.alloc o).alloc o').heap[w.heap.size]? = some o ∧ ((w.alloc o).alloc o').heap[w.heap.size + 1]? = some o' ∧ Below w.heap.size w ((w.alloc o).alloc o') ∧ ((w.alloc o).alloc o').heap.size = w.heap.size + 2 := by
  refine ⟨?_, ?_, ((Below.refl _ _).alloc (Nat.le_refl _) _).alloc (by simp) _, by simp⟩
  · rw [Below.heap_alloc _ _ _ (by simp)]; exact heap_alloc_new w _
  · have := heap_alloc_new (w.alloc o) o'
    simpa using this
set_option maxHeartbeats 1000000 in
set_option maxRecDepth 100000 in
theorem small_any (e : Int) (w : World) (he : -1000000 ≤ e ∧ e ≤ 1000000) : Calls Tryz.prog 51 #[.int .i64 e] w fun x w' => x = .returned (.string ⟨(itoa e).toArray⟩) ∧ Below w.heap.size w w' := by
  by_cases h : e < 0
  · obtain ⟨u, hu⟩ : ∃ u : Nat, -e = (u : Int) := ⟨(-e).toNat, by omega⟩
    have c1 : decide (e < 0) = true := decide_eq_true h
    have g1 : IntKind.i64.wrap (-e) = (u : Int) := by rw [hu]; exact IntWalk.i64_in _ (by omega)
    have g2 : IntKind.u64.wrap (u : Int) = (u : Int) := by rw [IntKind.wrap_u64]; omega
    have OT := Lib.hid (fun W => ofText u (by omega) W)
    have hne : u ≠ 0 := by omega
    have hit : itoa e = 45 :: decDigits u := by rw [show e = -(u : Int) by omega]; exact itoa_neg u (by omega)
    rw [hit]
    have HNE := Lib.hid hne
    clear hu he h hne hit
    go_enter Tryz.func51, Tryz.ntmps51
    go_wp2_with fail
    refine (OT.out _).mono ?_
    rintro x w1 ⟨A, n, c, rfl, hb1, k1, k2, k3⟩
    have K2 := k2 HNE.out
    have K3 := Lib.hid (k3 HNE.out)
    have NG : Calls Tryz.prog 96 #[.agg #[.bool false, .slice A n c]] w1 fun y W' => y = .returned (.agg #[.bool true, .slice A n c]) ∧ Below w1.heap.size w1 W' := by
      obtain ⟨w2, hw2⟩ : ∃ w2 : World, (w1.alloc (.cells #[.bool false, .slice A n c] 33)).alloc (.cells #[.bool false, .slice none 0 0] 33) = w2 := ⟨_, rfl⟩
      obtain ⟨X, hX⟩ : ∃ X, w1.heap.size = X := ⟨_, rfl⟩
      have hq := two_blocks w1 (.cells #[.bool false, .slice A n c] 33) (.cells #[.bool false, .slice none 0 0] 33)
      rw [hw2, hX] at hq
      obtain ⟨q1, q2, hbb, hss⟩ := hq
      have x0 := at_block q1 0 _ rfl
      have x1 := at_block q1 1 _ rfl
      have SG := Lib.hid (K2 w2 (by rw [hX]; exact hbb))
      have HW2 := Lib.hid hw2
      have HX := Lib.hid hX
      have HSS := Lib.hid hss
      have Q2 := Lib.hid q2
      clear hw2 hX q1 q2 k1 k2 k3 K2 hss
      go_enter Tryz.func96, Tryz.ntmps96
      go_upto_region 1 with fail
      rw [HW2.out, HX.out]
      go_wp2_with fail
      refine (SG.out).mono ?_
      rintro y w3 ⟨rfl, hb3⟩
      have q3 := (hb3.block (X + 1) (by rw [HSS.out]; omega)).trans Q2.out
      have z0 := at_block q3 0 _ rfl
      have z1 := at_block q3 1 _ rfl
      have f0 := free_block q3 0
      have f1 := free_block q3 1
      clear q3
      go_wp2_with fail
      refine bodyPost_ret (v := .agg #[.bool true, .slice A n c]) (by simp [results, Tryz.results96, go_sem, z0, z1]) rfl ?_
      refine ⟨rfl, ?_⟩
      have hb4 : Below X w1 w3 := hbb.trans (hb3.mono (by rw [HSS.out]; omega))
      rw [HX.out]
      exact (hb4.setCell (p := ⟨X + 1, 0, none⟩) (by show X ≤ X + 1; omega) _).setCell (p := ⟨X + 1, 1, none⟩) (by show X ≤ X + 1; omega) _
    have NG := Lib.hid NG
    clear k1 k2 k3 K2
    go_wp2_with fail
    refine (NG.out).mono ?_
    rintro x w2 ⟨rfl, hb2⟩
    go_wp2_with fail
    refine (K3.out _ hb2).mono ?_
    rintro x w3 ⟨rfl, hb3⟩
    go_wp2_with fail
    go_ret
    have hb12 := hb1.trans (hb2.mono hb1.size)
    exact ⟨rfl, hb12.trans (hb3.mono hb12.size)⟩
  · obtain ⟨u, rfl⟩ : ∃ u : Nat, e = (u : Int) := ⟨e.toNat, by omega⟩
    have g2 : IntKind.u64.wrap (u : Int) = (u : Int) := by rw [IntKind.wrap_u64]; omega
    have OT := Lib.hid (fun W => ofText u (by omega) W)
    rw [itoa_nonneg]
    have c1 : decide ((u : Int) < 0) = false := decide_eq_false h
    clear he h
    go_enter Tryz.func51, Tryz.ntmps51
    go_wp2_with fail
    refine (OT.out _).mono ?_
    rintro x w1 ⟨A, n, c, rfl, hb1, k1, _, _⟩
    have K1 := Lib.hid k1
    clear k1
    go_wp2_with fail
    refine (K1.out _ (Below.refl _ _)).mono ?_
    rintro x w3 ⟨rfl, hb3⟩
    go_wp2_with fail
    go_ret
    exact ⟨rfl, hb1.trans (hb3.mono hb1.size)⟩
end Go.Proofs.YtjapgpmoojfhnaaGreatDoor

namespace Go.Proofs.YtjapgpmoojfhnaaGreatDoor.Fl
open Go.Lib

/-- The number of a row of limbs, the lowest first. -/
def limbV : List Nat → Nat
  | [] => 0
  | x :: d => x + 1000000000 * limbV d
def Limbs (d : List Nat) : Prop := ∀ x ∈ d, x < 1000000000
/-- One pass: what lies in the row, and what is carried out of it. -/
def passL (b : Nat) : Nat → List Nat → List Nat
  | _, [] => []
  | c, x :: d => (c + x * b) % 1000000000 :: passL b ((c + x * b) / 1000000000) d
def passC (b : Nat) : Nat → List Nat → Nat
  | c, [] => c
  | c, x :: d => passC b ((c + x * b) / 1000000000) d
theorem pass_len (b : Nat) : ∀ (c : Nat) (d : List Nat), (passL b c d).length = d.length
  | _, [] => rfl
  | c, x :: d => by rw [passL, List.length_cons, List.length_cons, pass_len b _ d]
theorem limb_append : ∀ (d e : List Nat), limbV (d ++ e) = limbV d + 1000000000 ^ d.length * limbV e
  | [], e => by simp [limbV]
  | x :: d, e => by
    rw [List.cons_append, limbV, limbV, limb_append d e, List.length_cons, Nat.pow_succ, Nat.mul_add, ← Nat.add_assoc, ← Nat.mul_assoc, Nat.mul_comm 1000000000 (1000000000 ^ d.length)]
theorem pass_val (b : Nat) : ∀ (c : Nat) (d : List Nat), limbV (passL b c d) + 1000000000 ^ d.length * passC b c d = c + b * limbV d
  | c, [] => by simp [passL, passC, limbV]
  | c, x :: d => by
    have ih := pass_val b ((c + x * b) / 1000000000) d
    rw [passL, passC, limbV, limbV, List.length_cons, Nat.pow_succ]
    have e1 : 1000000000 ^ d.length * 1000000000 * passC b ((c + x * b) / 1000000000) d = 1000000000 * (1000000000 ^ d.length * passC b ((c + x * b) / 1000000000) d) := by rw [Nat.mul_comm (1000000000 ^ d.length), Nat.mul_assoc]
    rw [e1]
    have e2 := Nat.div_add_mod (c + x * b) 1000000000
    rw [Nat.mul_add b x, show b * (1000000000 * limbV d) = 1000000000 * (b * limbV d) by rw [← Nat.mul_assoc, Nat.mul_comm b, Nat.mul_assoc], Nat.mul_comm b x]
    generalize 1000000000 ^ d.length * passC b ((c + x * b) / 1000000000) d = Y at *
    generalize b * limbV d = Z at *
    generalize limbV (passL b ((c + x * b) / 1000000000) d) = U at *
    omega
theorem carry_lt {b c x : Nat} (hb : b ≤ 1000000000) (hc : c < 1000000000) (hx : x < 1000000000) : (c + x * b) / 1000000000 < 1000000000 ∧ c + x * b < 1000000000000000000 := by
  have h : x * b ≤ 999999999 * 1000000000 := Nat.mul_le_mul (by omega) hb
  omega
theorem pass_limbs {b : Nat} (hb : b ≤ 1000000000) : ∀ (c : Nat) (d : List Nat), c < 1000000000 → Limbs d → Limbs (passL b c d) ∧ passC b c d < 1000000000
  | c, [], hc, _ => ⟨by intro x hx; simp [passL] at hx, hc⟩
  | c, x :: d, hc, hd => by
    have hx : x < 1000000000 := hd x (by simp)
    obtain ⟨h1, h2⟩ := pass_limbs hb ((c + x * b) / 1000000000) d (carry_lt hb hc hx).1 (fun y hy => hd y (by simp [hy]))
    refine ⟨?_, h2⟩
    intro y hy
    rw [passL] at hy
    rcases List.mem_cons.1 hy with rfl | hy
    · omega
    · exact h1 y hy
/-- A round of the outer loop. -/
def roundL (b : Nat) (d : List Nat) : List Nat := passL b 0 d ++ (if 0 < passC b 0 d then [passC b 0 d] else [])
theorem round_val (b : Nat) (d : List Nat) : limbV (roundL b d) = b * limbV d := by
  have h := pass_val b 0 d
  unfold roundL
  rw [limb_append, pass_len]
  by_cases h0 : 0 < passC b 0 d
  · rw [if_pos h0]
    simp only [limbV, Nat.mul_zero, Nat.add_zero]
    omega
  · have e : passC b 0 d = 0 := by omega
    rw [if_neg h0]
    simp only [limbV]
    rw [e] at h
    omega
theorem round_limbs {b : Nat} (hb : b ≤ 1000000000) {d : List Nat} (hd : Limbs d) : Limbs (roundL b d) ∧ (roundL b d).length ≤ d.length + 1 ∧ d.length ≤ (roundL b d).length := by
  obtain ⟨h1, h2⟩ := pass_limbs hb 0 d (by decide) hd
  unfold roundL
  refine ⟨?_, ?_, ?_⟩
  · intro x hx
    rcases List.mem_append.1 hx with hx | hx
    · exact h1 x hx
    · split at hx
      · simp at hx; omega
      · simp at hx
  · rw [List.length_append, pass_len]
    split <;> simp
  · rw [List.length_append, pass_len]; omega
/-- What the rounds leave: n factors, nine at a time. -/
def prodL (base : Nat) : Nat → List Nat → List Nat
  | 0, d => d
  | n + 1, d => prodL base (n + 1 - min (n + 1) 9) (roundL (base ^ min (n + 1) 9) d)
termination_by n => n
decreasing_by omega
theorem prod_step {base n : Nat} (h : 0 < n) (d : List Nat) : prodL base n d = prodL base (n - min n 9) (roundL (base ^ min n 9) d) := by
  obtain ⟨k, rfl⟩ : ∃ k, n = k + 1 := ⟨n - 1, by omega⟩
  rw [prodL]
theorem prod_val (base : Nat) : ∀ (n : Nat) (d : List Nat), limbV (prodL base n d) = limbV d * base ^ n := by
  intro n
  induction n using Nat.strongRecOn with
  | _ n ih =>
    intro d
    by_cases h : n = 0
    · subst h; rw [prodL]; simp
    · rw [prod_step (by omega), ih _ (by omega), round_val, Nat.mul_comm _ (limbV d), Nat.mul_assoc, ← Nat.pow_add]
      congr 2; omega
theorem base_pow {base k : Nat} (hb : base ≤ 10) (hk : k ≤ 9) : base ^ k ≤ 1000000000 :=
  Nat.le_trans (Nat.pow_le_pow_left hb k) (Nat.le_trans (Nat.pow_le_pow_right (by decide) hk) (by decide))
theorem prod_limbs {base : Nat} (hb : base ≤ 10) : ∀ (n : Nat) (d : List Nat), Limbs d → Limbs (prodL base n d) ∧ (prodL base n d).length ≤ d.length + n := by
  intro n
  induction n using Nat.strongRecOn with
  | _ n ih =>
    intro d hd
    by_cases h : n = 0
    · subst h; rw [prodL]; exact ⟨hd, by omega⟩
    · rw [prod_step (by omega)]
      obtain ⟨h1, h2, _⟩ := round_limbs (base_pow hb (Nat.min_le_right n 9)) hd
      obtain ⟨h3, h4⟩ := ih (n - min n 9) (by omega) _ h1
      exact ⟨h3, by omega⟩
/-- The lowest k digits of a number, the lowest first. -/
def fixL : Nat → Nat → List Nat
  | 0, _ => []
  | k + 1, u => u % 10 :: fixL k (u / 10)
theorem fix_len : ∀ k u, (fixL k u).length = k
  | 0, _ => rfl
  | k + 1, u => by rw [fixL, List.length_cons, fix_len k]
theorem fix_add : ∀ (k l u : Nat), fixL (k + l) u = fixL k u ++ fixL l (u / 10 ^ k)
  | 0, l, u => by simp [fixL]
  | k + 1, l, u => by
    rw [show k + 1 + l = (k + l) + 1 by omega, fixL, fixL, fix_add k l (u / 10), List.cons_append, Nat.div_div_eq_div_mul, Nat.pow_succ, Nat.mul_comm 10]
theorem fix_mod : ∀ (k u v : Nat), fixL k (u + 10 ^ k * v) = fixL k u
  | 0, _, _ => rfl
  | k + 1, u, v => by
    have e : 10 ^ (k + 1) * v = 10 * (10 ^ k * v) := by rw [Nat.pow_succ, Nat.mul_comm (10 ^ k), Nat.mul_assoc]
    rw [fixL, fixL, e]
    congr 1
    · omega
    · rw [show (u + 10 * (10 ^ k * v)) / 10 = u / 10 + 10 ^ k * v by omega]
      exact fix_mod k _ _
theorem fix_dig : ∀ (k u : Nat), u < 10 ^ k → fixL k u = digL u ++ List.replicate (k - (digL u).length) 0 ∧ (digL u).length ≤ k
  | 0, u, h => by
    have : u = 0 := by simpa using h
    subst this
    rw [digL_zero]
    exact ⟨rfl, by simp⟩
  | k + 1, u, h => by
    have h2 : u / 10 < 10 ^ k := by rw [Nat.div_lt_iff_lt_mul (by decide), ← Nat.pow_succ]; exact h
    obtain ⟨a1, a2⟩ := fix_dig k (u / 10) h2
    by_cases h0 : u = 0
    · subst h0
      rw [digL_zero] at *
      have e : fixL k 0 = List.replicate k 0 := by simpa using a1
      rw [fixL, Nat.zero_div, e]
      exact ⟨by simp [List.replicate_succ], by simp⟩
    · rw [digL_pos h0, fixL, a1]
      exact ⟨by simp, by simp; exact a2⟩
theorem fix_limb : ∀ (d : List Nat), Limbs d → fixL (9 * d.length) (limbV d) = (d.map (fixL 9)).flatten ∧ limbV d < 10 ^ (9 * d.length)
  | [], _ => ⟨rfl, by simp [limbV]⟩
  | x :: d, h => by
    have hx : x < 1000000000 := h x (by simp)
    obtain ⟨h1, h2⟩ := fix_limb d (fun y hy => h y (by simp [hy]))
    rw [List.length_cons, show 9 * (d.length + 1) = 9 + 9 * d.length by omega, limbV, fix_add, List.map_cons, List.flatten_cons]
    have e : (10 : Nat) ^ 9 = 1000000000 := by decide
    refine ⟨?_, ?_⟩
    · have h3 := fix_mod 9 x (limbV d)
      rw [e] at h3
      rw [h3, e, show (x + 1000000000 * limbV d) / 1000000000 = limbV d by omega, h1]
    · rw [Nat.pow_add, e]
      generalize 10 ^ (9 * d.length) = Y at *
      omega
def digB8 (l : List Nat) : List UInt8 := l.map fun x => UInt8.ofNat (48 + x)
/-- The text of a limb with its leading zeros. -/
def pad9 (x : Nat) : List UInt8 := repeatL [48] (9 - (decDigits x).length) ++ decDigits x
theorem repeat_one : ∀ n, repeatL [48] n = List.replicate n (48 : UInt8)
  | 0 => rfl
  | n + 1 => by rw [repeatL, repeat_one n]; rfl
theorem dec_is {u : Nat} (h : u ≠ 0) : decDigits u = digB8 (digL u).reverse := (digL_facts h).2.2.2.2
theorem pad_is {x : Nat} (h : x < 1000000000) : pad9 x = digB8 (fixL 9 x).reverse ∧ (decDigits x).length ≤ 9 := by
  obtain ⟨h1, h2⟩ := fix_dig 9 x (by rw [show (10 : Nat) ^ 9 = 1000000000 by decide]; exact h)
  unfold pad9
  rw [repeat_one]
  by_cases h0 : x = 0
  · subst h0
    have e : decDigits 0 = [48] := by rw [decDigits_one (by decide)]; rfl
    rw [e]
    exact ⟨by decide, by decide⟩
  · have e := dec_is h0
    have el : (decDigits x).length = (digL x).length := by rw [e]; simp [digB8]
    rw [el, h1, e]
    refine ⟨?_, h2⟩
    simp [digB8]
/-- The text of a row of limbs. -/
def limbB (d : List Nat) : List UInt8 := (d.reverse.map pad9).flatten
theorem limbB_is {d : List Nat} (h : Limbs d) : limbB d = digB8 (fixL (9 * d.length) (limbV d)).reverse := by
  rw [(fix_limb d h).1]
  induction d with
  | nil => rfl
  | cons x d ih =>
    have h2 := ih (fun y hy => h y (by simp [hy]))
    unfold limbB at h2 ⊢
    rw [List.reverse_cons, List.map_append, List.flatten_append, h2]
    simp [digB8, (pad_is (h x (by simp))).1]
theorem trim_limb {d : List Nat} (h : Limbs d) (h0 : limbV d ≠ 0) : trimLeftB (limbB d) 48 = decDigits (limbV d) := by
  obtain ⟨h1, h2⟩ := fix_dig (9 * d.length) (limbV d) (fix_limb d h).2
  obtain ⟨b1, _, b3, ⟨t, b4, b5⟩, _⟩ := digL_facts h0
  rw [limbB_is h, dec_is h0, h1]
  have e : digB8 (digL (limbV d) ++ List.replicate (9 * d.length - (digL (limbV d)).length) 0).reverse = List.replicate (9 * d.length - (digL (limbV d)).length) (48 : UInt8) ++ digB8 (digL (limbV d)).reverse := by
    simp [digB8]
  rw [e]
  have hd : ∃ y l, digB8 (digL (limbV d)).reverse = y :: l ∧ y ≠ 48 := by
    have hr : (digL (limbV d)).reverse[0]? = some t := by rw [List.getElem?_reverse (by omega)]; exact b4
    have ht : t < 10 := b3 t (List.mem_of_getElem? b4)
    cases hl : (digL (limbV d)).reverse with
    | nil => rw [hl] at hr; simp at hr
    | cons y l =>
      rw [hl] at hr
      simp at hr
      subst hr
      refine ⟨_, _, rfl, ?_⟩
      intro he
      have := congrArg UInt8.toNat he
      rw [Dc.dig_toNat ht] at this
      have : (48 : UInt8).toNat = 48 := rfl
      omega
  obtain ⟨y, l, hy, hy48⟩ := hd
  rw [hy]
  generalize 9 * d.length - (digL (limbV d)).length = n
  unfold trimLeftB
  induction n with
  | zero => simp [hy48]
  | succ n ih => rw [List.replicate_succ, List.cons_append, List.dropWhile_cons_of_pos (by rfl)]; exact ih
/-- The first row. -/
def firstL (m : Nat) : List Nat := [m % 1000000000, m / 1000000000 % 1000000000, m / 1000000000 / 1000000000]
theorem first_val (m : Nat) : limbV (firstL m) = m := by
  unfold firstL
  simp only [limbV]
  omega
theorem first_limbs {m : Nat} (h : m < 18446744073709551616) : Limbs (firstL m) := by
  intro x hx
  simp only [firstL, List.mem_cons, List.not_mem_nil, or_false] at hx
  omega
end Go.Proofs.YtjapgpmoojfhnaaGreatDoor.Fl

namespace Go.Proofs.YtjapgpmoojfhnaaGreatDoor
open Go.RowKit Go.Lib

def sgnS (neg : Bool) : List UInt8 := if neg = true then [45] else []
theorem f4 {A B C D : Prop} {a W : World} (h : A ∧ B ∧ C ∧ D ∧ Below a.heap.size a W) : Below a.heap.size a W := h.2.2.2.2
theorem f4_trans {A B C D : Prop} {a W W' : World} (h : A ∧ B ∧ C ∧ D ∧ Below a.heap.size a W) (hb : Below W.heap.size W W') : Below a.heap.size a W' := h.2.2.2.2.trans (hb.mono h.2.2.2.2.size)
theorem b_drew {a W : World} (h : Below a.heap.size a W) : Below a.heap.size a W.drew := h.drew
theorem lit_112 : (⟨#[112]⟩ : ByteArray) = ⟨([112] : List UInt8).toArray⟩ := rfl
theorem lit_45 : (⟨#[45]⟩ : ByteArray) = ⟨([45] : List UInt8).toArray⟩ := rfl
/-- A float of the reference, boxed. -/
theorem box_float (k : Int) (neg : Bool) (m : Int) (e : Int) (w : World) : ∃ (w2 : World) (X : Nat), w.alloc (.cells #[.int .i64 k, .bool neg, .int .u64 m, .int .i64 e] 24) = w2 ∧ w.heap.size = X ∧ Below w.heap.size w w2 ∧
    ∀ W, Below w2.heap.size w2 W → W.cell? ⟨X, 0, none⟩ = some (.int .i64 k) ∧ W.cell? ⟨X, 1, none⟩ = some (.bool neg) ∧ W.cell? ⟨X, 2, none⟩ = some (.int .u64 m) ∧ W.cell? ⟨X, 3, none⟩ = some (.int .i64 e) ∧ Below w2.heap.size w2 W := by
  refine ⟨_, _, rfl, rfl, (Below.refl _ _).alloc (Nat.le_refl _) _, fun W hW => ?_⟩
  have h1 := (hW.block w.heap.size (by simp)).trans (heap_alloc_new w _)
  exact ⟨at_block h1 0 _ rfl, at_block h1 1 _ rfl, at_block h1 2 _ rfl, at_block h1 3 _ rfl, hW⟩
set_option maxHeartbeats 2000000 in
set_option maxRecDepth 100000 in
theorem floattext_num (neg : Bool) (m : Nat) (e : Int) (w : World) (hm : m < 18446744073709551616) (he : -2000 ≤ e ∧ e ≤ 2000) :
    Calls Tryz.prog 15 #[.agg #[.int .i64 0, .bool neg, .int .u64 (m : Int), .int .i64 e]] w fun x w' => x = .returned (.string ⟨(sgnS neg ++ (decDigits m ++ 112 :: itoa e)).toArray⟩) ∧ Below w.heap.size w w' := by
  obtain ⟨w2, X, hw2, hX, hb2, hcells⟩ := box_float 0 neg m e w
  have OT := Lib.hid (fun W => ofText m hm W)
  have SM := Lib.hid (fun W => small_any e W (by omega))
  obtain ⟨D, hD⟩ : ∃ D : ByteArray, ⟨(decDigits m).toArray⟩ = D := ⟨_, rfl⟩
  obtain ⟨I, hI⟩ : ∃ I : ByteArray, ⟨(itoa e).toArray⟩ = I := ⟨_, rfl⟩
  rw [hD] at OT
  rw [hI] at SM
  have hDs : D.size ≤ 20 := by
    rw [← hD]
    show (decDigits m).length ≤ 20
    by_cases h0 : m = 0
    · subst h0; rw [decDigits_one (by omega)]; simp
    · rw [Lib.decDigits_length]
      have := Lib.numDigits_eq m (by omega) hm
      split at this <;> omega
  have hIs : I.size ≤ 5 := by rw [← hI]; exact Dc.itoa_len (by omega) (by omega)
  have hadd1 := fun W => run_string_add_sum (P := Tryz.prog) (w := W) D ⟨#[112]⟩ (by show D.size + 1 ≤ _; omega)
  have hadd2 := fun W => run_string_add_sum (P := Tryz.prog) (w := W) (D ++ ⟨#[112]⟩) I (by rw [ByteArray.size_append]; show D.size + 1 + I.size ≤ _; omega)
  have hadd3 := fun W => run_string_add_sum (P := Tryz.prog) (w := W) ⟨#[45]⟩ (D ++ ⟨#[112]⟩ ++ I) (by rw [ByteArray.size_append, ByteArray.size_append]; show 1 + (D.size + 1 + I.size) ≤ _; omega)
  have HDI := Lib.hid (And.intro hD hI)
  have HC := Lib.hid hcells
  have HW2 := Lib.hid hw2
  have HX := Lib.hid hX
  have hd2 : Below w2.heap.size w2 w2 := Below.refl _ _
  obtain ⟨x0, x1, x2, x3, _⟩ := hcells w2 hd2
  clear hcells hw2 hX hD hI hDs hIs hm he
  go_enter Tryz.func15, Tryz.ntmps15
  go_upto_region 1 with fail
  rw [HW2.out, HX.out]
  go_upto_region 5 with fail
  go_region_held3 (fun W => W.cell? ⟨X, 0, none⟩ = some (.int .i64 0) ∧ W.cell? ⟨X, 1, none⟩ = some (.bool neg) ∧ W.cell? ⟨X, 2, none⟩ = some (.int .u64 (m : Int)) ∧ W.cell? ⟨X, 3, none⟩ = some (.int .i64 e) ∧ Below w2.heap.size w2 W)
    ((refine HC.out _ ?_; first | assumption | exact b_drew hd2 | exact b_drew (by assumption)))
    (first | (go_at_call 50; refine (OT.out _).mono ?_; rintro x w3 ⟨A, n, c, rfl, hb3, k1, _, _⟩; have hb3' := f4_trans (by assumption) hb3) | (go_at_call 19; refine (k1 _ (by first | exact Below.refl _ _ | exact (Below.refl _ _).drew)).mono ?_; rintro x w4 ⟨rfl, hb4⟩; have hb4' := f4_trans (by assumption) hb4) | (go_at_call 51; refine (SM.out _).mono ?_; rintro x w5 ⟨rfl, hb5⟩; have hb5' := f4_trans (by assumption) hb5))
  clear x0 x1 x2 x3
  obtain ⟨x0, x1, x2, x3, _⟩ := HC.out w5 hb5'
  have hbz : Below w.heap.size w w5 := hb2.trans (hb5'.mono hb2.size)
  clear k1 hb3 hb3' hb4 hb4' hb5
  cases neg with
  | true =>
    go_wp2_with fail
    go_ret
    refine ⟨?_, hbz⟩
    rw [lit_112, lit_45, ← HDI.out.1, ← HDI.out.2, str_append, str_append, str_append]
    simp [sgnS]
  | false =>
    go_wp2_with fail
    go_ret
    refine ⟨?_, hbz⟩
    rw [lit_112, ← HDI.out.1, ← HDI.out.2, str_append, str_append]
    simp [sgnS]
set_option maxHeartbeats 1000000 in
set_option maxRecDepth 100000 in
theorem floattext_inf (neg : Bool) (m e : Int) (w : World) :
    Calls Tryz.prog 15 #[.agg #[.int .i64 1, .bool neg, .int .u64 m, .int .i64 e]] w fun x w' => x = .returned (.string ⟨(sgnS neg ++ [105, 110, 102]).toArray⟩) ∧ Below w.heap.size w w' := by
  obtain ⟨w2, X, hw2, hX, hb2, hcells⟩ := box_float 1 neg m e w
  have HW2 := Lib.hid hw2
  have HX := Lib.hid hX
  obtain ⟨x0, x1, x2, x3, _⟩ := hcells w2 (Below.refl _ _)
  clear hcells hw2 hX
  cases neg with
  | true =>
    go_enter Tryz.func15, Tryz.ntmps15
    go_upto_region 1 with fail
    rw [HW2.out, HX.out]
    go_wp2_with fail
    go_ret
    exact ⟨rfl, hb2⟩
  | false =>
    go_enter Tryz.func15, Tryz.ntmps15
    go_upto_region 1 with fail
    rw [HW2.out, HX.out]
    go_wp2_with fail
    go_ret
    exact ⟨rfl, hb2⟩
set_option maxHeartbeats 1000000 in
set_option maxRecDepth 100000 in
theorem floattext_nan (m e : Int) (w : World) :
    Calls Tryz.prog 15 #[.agg #[.int .i64 2, .bool false, .int .u64 m, .int .i64 e]] w fun x w' => x = .returned (.string ⟨#[110, 97, 110]⟩) ∧ Below w.heap.size w w' := by
  obtain ⟨w2, X, hw2, hX, hb2, hcells⟩ := box_float 2 false m e w
  have HW2 := Lib.hid hw2
  have HX := Lib.hid hX
  obtain ⟨x0, x1, x2, x3, _⟩ := hcells w2 (Below.refl _ _)
  clear hcells hw2 hX
  go_enter Tryz.func15, Tryz.ntmps15
  go_upto_region 1 with fail
  rw [HW2.out, HX.out]
  go_wp2_with fail
  go_ret
  exact ⟨rfl, hb2⟩
end Go.Proofs.YtjapgpmoojfhnaaGreatDoor
