/- The reference: the text of an integer. -/
import Derived.Test.YtjapgpmoojfhnaaGreatDoorWalkK
namespace Go.Proofs.YtjapgpmoojfhnaaGreatDoor
open Go.RowKit Go.Lib

namespace Fl
def pm (neg : Bool) : List Nat := if neg = true then [45] else []
/-- The text of an integer, as numbers. -/
def intN (neg : Bool) (l : List Nat) : List Nat := pm neg ++ l.reverse.map (48 + ·)
end Fl
set_option maxHeartbeats 1000000 in
set_option maxRecDepth 100000 in
theorem inttext_any (neg : Bool) (A : Option Addr) (n c : Nat) (l : List Nat) (w : World) (hr : Reads w w.heap.size A n (u8s l)) (hd : ∀ x ∈ l, x < 10) (hn : n ≤ 100000) (hn0 : 0 < n) :
    Calls Tryz.prog 19 #[.agg #[.bool neg, .slice A n c]] w fun x w' => x = .returned (.string ⟨((Fl.intN neg l).map UInt8.ofNat).toArray⟩) ∧ Below w.heap.size w w' := by
  have hln : l.length = n := by have := hr.1; rwa [u8s_len] at this
  obtain ⟨i0, hi, hz0, hz1, hz2⟩ := info_parts info5
  obtain ⟨w2, hw2⟩ : ∃ w2 : World, w.alloc (.cells #[.bool neg, .slice A n c] 33) = w2 := ⟨_, rfl⟩
  obtain ⟨X, hX⟩ : ∃ X, w.heap.size = X := ⟨_, rfl⟩
  have hXc := heap_alloc_new w (.cells #[.bool neg, .slice A n c] 33)
  have hb2 : Below w.heap.size w w2 := by rw [← hw2]; exact (Below.refl _ _).alloc (Nat.le_refl _) _
  have hs2 : w2.heap.size = X + 1 := by rw [← hw2, ← hX]; simp
  rw [hw2, hX] at hXc
  have hr2 := hr.below hb2
  rw [hX] at hb2 hr2
  have hn1 : ((n : Int) == 0) = false := by rw [beq_eq_false_iff_ne]; omega
  have hw1 : IntKind.i64.wrap ((n : Int) - 1) = (n : Int) - 1 := IntWalk.i64_in _ (by omega)
  have HC : ∀ W, Below (X + 1) w2 W → W.cell? ⟨X, 0, none⟩ = some (.bool neg) ∧ W.cell? ⟨X, 1, none⟩ = some (.slice A n c) := fun W hW => by
    have h := (hW.block X (by omega)).trans hXc
    exact ⟨at_block h 0 _ rfl, at_block h 1 _ rfl⟩
  have HC := Lib.hid HC
  have HW2 := Lib.hid hw2
  have HX := Lib.hid hX
  have HLN := Lib.hid hln
  have hdd : Below (X + 1) w2 w2 := Below.refl _ _
  obtain ⟨x0, x1⟩ := HC.out w2 hdd
  have HS2 := Lib.hid hs2
  clear hw2 hX hXc hr hln hs2
  go_enter Tryz.func19, Tryz.ntmps19
  go_upto_region 1 with fail
  rw [HW2.out, HX.out]
  go_upto_if 10 with fail
  go_cut [3] (fun v wx => wx.ownsRow (X + 1) 5 1 v (Fl.pm neg).length (u8s (Fl.pm neg)) ∧ Below (X + 1) w2 wx)
  case first =>
    cases neg with
    | true =>
      have hnil : w2.ownsRow (X + 1) 5 1 (.slice none 0 0) 0 [] := World.ownsRow_nil _ _ _ _
      go_wp2_with (at_builtin; refine wpList_append_own _ rfl _ _ 31 rfl (X + 1) 5 i0 (.int .u8 0) 1 1 Tryz.underlying31 hi hz0 hz1 hz2 rfl (by decide) _ _ _ rfl (hnil.alloc _) ⟨w2.heap.size, 0, none⟩ 1 1 [.int .u8 45] rfl rfl ?c1 ?c2 ?c3 ?c4 ?c5 ?_)
      case c1 =>
        intro j u' hj
        match j, hj with
        | 0, hj => simp at hj; subst hj; simp [Addr.add]
      case c2 => intro u' hu'; simp at hu'; subst hu'; rfl
      case c3 => unfold maxLen; omega
      case c4 => omega
      case c5 => have := HS2.out; simp; omega
      intro v' w3 hown3 hgr3 _
      have hb3 : Below (X + 1) w2 w3 := ((Below.refl _ _).alloc (by have := HS2.out; omega) _).grown hgr3 (by have := HS2.out; simp; omega) (fun k hk => by simp [Value.ownBlock] at hk)
      go_wp2_with fail
      go_meet
      exact ⟨hown3, hb3⟩
    | false =>
      go_wp2_with fail
      go_meet
      exact ⟨World.ownsRow_nil _ _ _ _, hdd⟩
  case rest =>
    obtain ⟨hown, hb3⟩ := hcut
    obtain ⟨w3, hw3⟩ : ∃ W, W = wc := ⟨_, rfl⟩
    subst hw3
    obtain ⟨P, hP⟩ : ∃ P, Fl.pm neg = P := ⟨_, rfl⟩
    have hPl : P.length ≤ 1 := by rw [← hP]; unfold Fl.pm; split <;> simp
    rw [hP] at hown
    have HP := Lib.hid hP
    have hX1 : X + 1 ≤ w3.heap.size := by have := hb3.size; rw [HS2.out] at this; exact this
    clear x0 x1 hP
    obtain ⟨x0, x1⟩ := HC.out w3 hb3
    obtain ⟨A3, c3, rfl⟩ := own_form hown
    obtain ⟨p, hp⟩ : ∃ p, P.length = p := ⟨_, rfl⟩
    rw [hp] at hown hPl ⊢
    have HPP := Lib.hid hp
    clear hp
    go_wp2_with fail
    go_loopg [3, 4] n (fun f t3 t4 wx => ∃ (q k : Nat) (j : Int) (v : Value), t3 = v ∧ t4 = .int .i64 j ∧ j = (q : Int) - 1 ∧ q ≤ n ∧ q ≤ f ∧ k + q = p + n ∧ wx.ownsRow (X + 1) 5 1 v k (u8s (P ++ (l.drop q).reverse.map (48 + ·))) ∧ X + 1 ≤ wx.heap.size ∧ Below (X + 1) w2 wx)
    case atStart =>
      refine ⟨n, p, (n : Int) - 1, _, rfl, rfl, rfl, Nat.le_refl _, Nat.le_refl _, rfl, ?_, hX1, hb3⟩
      rw [List.drop_eq_nil_of_le (by rw [HLN.out]; exact Nat.le_refl _)]
      simpa using hown
    case round =>
      obtain ⟨q, k, j, v, rfl, rfl, hj, hqn, hqf, hkq, hown4, hX4, hbx⟩ := hrel
      clear x0 x1
      obtain ⟨x0, x1⟩ := HC.out wr hbx
      cases q with
      | zero =>
        obtain rfl : j = -1 := by omega
        obtain ⟨A4, c4, rfl⟩ := own_form hown4
        have hrd := Reads.of_own hown4
        rw [List.drop_zero] at hrd
        have hk0 : 0 < k := by omega
        have hcv := conv_bytes (c := c4) hrd (fun h => by omega)
        have e : P ++ l.reverse.map (48 + ·) = Fl.intN neg l := by rw [Fl.intN, HP.out]
        rw [e] at hcv
        obtain ⟨T, hT⟩ : ∃ T : ByteArray, ⟨((Fl.intN neg l).map UInt8.ofNat).toArray⟩ = T := ⟨_, rfl⟩
        rw [hT] at hcv
        have HT := Lib.hid hT
        clear hown hown4 hrd e hT hj
        go_wp2_with fail
        go_ret
        refine ⟨by rw [HT.out]; rfl, ?_⟩
        rw [HX.out]
        exact hb2.trans (hbx.mono (by omega))
      | succ r =>
        obtain ⟨f, rfl⟩ : ∃ f, gk = f + 1 := ⟨gk - 1, by omega⟩
        obtain rfl : j = (r : Int) := by omega
        have hrn : r < n := by omega
        have hr0 : (0 : Int) ≤ (r : Int) := by omega
        have hrni : (r : Int) < (n : Int) := by omega
        obtain ⟨b, off, u, rfl, _, hu, hcell⟩ := (hr2.below (hbx.mono (by omega))).at_ (k := r) hrn
        obtain ⟨d, hd1, rfl⟩ := u8_at hu
        have hd10 : d < 10 := hd d (List.mem_of_getElem? hd1)
        obtain ⟨D, hD⟩ : ∃ D, 48 + d = D := ⟨_, rfl⟩
        have hDi : (48 : Int) + (d : Int) = (D : Int) := by omega
        have hDw : IntKind.u8.wrap (D : Int) = (D : Int) := by rw [IntKind.wrap_u8]; omega
        have hrw : IntKind.i64.wrap ((r : Int) - 1) = (r : Int) - 1 := IntWalk.i64_in _ (by omega)
        have hstep : P ++ (l.drop r).reverse.map (48 + ·) = (P ++ (l.drop (r + 1)).reverse.map (48 + ·)) ++ [D] := by
          obtain ⟨h1, h2⟩ := List.getElem?_eq_some_iff.1 hd1
          rw [List.drop_eq_getElem_cons h1, h2, List.reverse_cons, List.map_append, ← hD, List.append_assoc]
          rfl
        have HST := Lib.hid hstep
        have HH := Lib.hid (And.intro hd1 hu)
        clear hstep hd1 hu hD hj
        go_wp2_with (at_builtin; refine wpList_append_own _ rfl _ _ 31 rfl (X + 1) 5 i0 (.int .u8 0) 1 1 Tryz.underlying31 hi hz0 hz1 hz2 rfl (by decide) _ _ _ rfl (hown4.alloc _) ⟨wr.heap.size, 0, none⟩ 1 1 [.int .u8 (D : Int)] rfl rfl ?c1 ?c2 ?c3 ?c4 ?c5 ?_)
        case c2 => rfl
        case c3 => unfold maxLen; omega
        case c4 => omega
        case c5 => first | omega | (simp; omega)
        intro v' w5 hown5 hgr5 _
        have hb5 : Below (X + 1) wr w5 := ((Below.refl _ _).alloc hX4 _).grown hgr5 (by simp; omega) (fun k hk => (hown4.lt k hk).1)
        have HOW5 := Lib.hid hown5
        clear hgr5 hown4 hown5 hcell
        go_wp2_with fail
        go_roundg f
        case measure => omega
        case rel =>
          refine ⟨r, k + 1, (r : Int) - 1, v', rfl, rfl, rfl, by omega, by omega, by omega, ?_, by have := hb5.size; omega, hbx.trans hb5⟩
          rw [HST.out]
          have e : ∀ a : List Nat, u8s (a ++ [D]) = u8s a ++ [.int .u8 (D : Int)] := fun a => by simp [u8s]
          rw [e]
          have h := HOW5.out
          simpa using h
end Go.Proofs.YtjapgpmoojfhnaaGreatDoor
