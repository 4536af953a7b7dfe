/- The reference: front, padded, size. -/
import Derived.Test.YtmgafnflkfbckaaGreatDoorWalkW
import Derived.Test.YtmgafnflkfbckaaGreatDoorPlain9
import Derived.Deep.QuietTactic
import Derived.BigQuiet
namespace Go.Proofs.YtmgafnflkfbckaaGreatDoor
open Go.RowKit Go.Lib

theorem below_drewN {B : Nat} {w w' : World} (h : Below B w w') (n : Nat) : Below B w (w'.drewN n) := by
  obtain ⟨a, b, c, d, e⟩ := h
  exact ⟨a, b, c, d, e⟩
theorem rep_snoc (k : Nat) : List.replicate k 0 ++ [0] = List.replicate (k + 1) 0 := by rw [List.replicate_succ']
set_option maxHeartbeats 1000000 in
set_option maxRecDepth 100000 in
theorem front_any (A : Option Addr) (n c N : Nat) (l : List Nat) (w : World) (hr : Reads w w.heap.size A n (i64s l)) (hn : n ≤ N) (hN : N ≤ 1048576) :
    Calls Tryz.prog 49 #[.slice A n c, .int .i64 (N : Int)] w fun x w' => ∃ v, x = .returned v ∧ w'.ownsRow w.heap.size 3 1 v N (i64s (Dc.frontL l N)) ∧ Below w.heap.size w w' := by
  obtain ⟨i0, hi, hz0, hz1, hz2⟩ := info_parts info3
  have hln : l.length = n := by have := hr.1; rwa [i64s_len] at this
  have HLN := Lib.hid hln
  clear hln
  go_enter Tryz.func49, Tryz.ntmps49
  go_wp2
  go_loopg [5, 6] N (fun f v i wx => ∃ (k q : Nat), i = .int .i64 (q : Int) ∧ n + k = q ∧ q ≤ N ∧ N ≤ q + f ∧ wx.ownsRow w.heap.size 3 1 v k (i64s (List.replicate k 0)) ∧ Below w.heap.size w wx)
  case atStart => exact ⟨0, n, rfl, rfl, hn, by omega, World.ownsRow_nil _ _ _ _, Below.refl _ _⟩
  case round =>
    obtain ⟨k, q, rfl, hkq, hq, hf, hown, hbx⟩ := hrel
    have HKQ := Lib.hid hkq
    have hkN : k ≤ N := by omega
    have hnk : n + k ≤ N := by omega
    clear hkq
    have hq0 : (0 : Int) ≤ (q : Int) := by omega
    by_cases hlt : q < N
    · have hin : (q : Int) < (N : Int) := by omega
      obtain ⟨f, rfl⟩ : ∃ f, gk = f + 1 := ⟨gk - 1, by omega⟩
      go_wp2_with (at_builtin; refine wpList_append_own _ rfl _ _ 23 rfl w.heap.size 3 i0 (.int .i64 0) 1 8 Tryz.underlying23 hi hz0 hz1 hz2 rfl (by decide) _ _ _ rfl (hown.alloc _) ⟨wr.heap.size, 0, none⟩ 1 1 [.int .i64 0] rfl rfl ?c1 ?c2 ?c3 ?c4 ?c5 ?_)
      case c1 =>
        intro j u hj
        match j, hj with
        | 0, hj => simp at hj; subst hj; simp [Addr.add]
      case c2 => intro u hu; simp at hu; subst hu; rfl
      case c3 => unfold maxLen; omega
      case c4 => omega
      case c5 => have := hbx.size; simp; omega
      intro v' w3 hown3 hgr3 _
      have hb3 : Below w.heap.size w w3 := (hbx.alloc hbx.size _).grown hgr3 (by have := hbx.size; simp; omega) (fun k hk => (hown.lt k hk).1)
      clear hgr3
      go_wp2
      go_roundg f
      case measure => omega
      case rel =>
        refine ⟨k + 1, q + 1, by go_num, by have := HKQ.out; omega, by omega, by omega, ?_, hb3⟩
        rw [← rep_snoc, i64s_append]; exact hown3
    · obtain rfl : q = N := by omega
      have hin : ¬ (q : Int) < (q : Int) := by omega
      have hrx := (hr.below hbx)
      obtain ⟨V, hV⟩ : ∃ V, i64s l = V := ⟨_, rfl⟩
      have hone := i64s_one l
      rw [hV] at hrx hone
      have HV := Lib.hid hV
      clear hV hr
      go_wp2_with (at_builtin; refine wpList_append_any _ rfl _ _ 23 rfl w.heap.size 3 i0 (.int .i64 0) 8 Tryz.underlying23 hi hz0 hz1 hz2 rfl _ _ _ rfl hown _ A n c V rfl hrx hone ?c3 ?c4 hbx.size ?_)
      case c3 => unfold maxLen; omega
      case c4 => omega
      intro v' w3 hown3 hgr3
      have hb3 : Below w.heap.size w w3 := hbx.grown hgr3 hbx.size (fun k hk => (hown.lt k hk).1)
      clear hgr3
      go_wp2
      go_ret
      refine ⟨v', rfl, ?_, hb3⟩
      have h1 := HKQ.out
      have h2 := HLN.out
      rw [Dc.frontL, h2, show q - n = k by omega, i64s_append, HV.out, show q = k + n by omega]
      exact hown3

set_option maxHeartbeats 1000000 in
set_option maxRecDepth 100000 in
theorem size_any (A B : Option Addr) (n c d : Nat) (a b : List Nat) (w : World) (hr : Reads w w.heap.size A n (i64s a)) (hr' : Reads w w.heap.size B n (i64s b)) (hn : n ≤ 1073741824) :
    Calls Tryz.prog 26 #[.slice A n c, .slice B n d] w fun x w' => x = .returned (.int .i64 (Dc.sizeL a b)) ∧ Below w.heap.size w w' := by
  have hla : a.length = n := by have := hr.1; rwa [i64s_len] at this
  have hlb : b.length = n := by have := hr'.1; rwa [i64s_len] at this
  obtain ⟨S, hS⟩ : ∃ S, Dc.sizeL a b = S := ⟨_, rfl⟩
  rw [hS]
  have HLA := Lib.hid (And.intro hla hlb)
  have HS := Lib.hid hS
  clear hla hlb hS
  go_enter Tryz.func26, Tryz.ntmps26
  go_wp2
  go_loopg [5] n (fun f i wx => ∃ (k : Nat), i = .int .i64 (k : Int) ∧ k ≤ n ∧ n ≤ k + f ∧ Below w.heap.size w wx ∧ Dc.sizeL (a.drop k) (b.drop k) = S)
  case atStart => exact ⟨0, rfl, by omega, by omega, Below.refl _ _, HS.out⟩
  case round =>
    obtain ⟨k, rfl, hk, hf, hbx, hSk⟩ := hrel
    have HSK := Lib.hid hSk
    clear hSk
    have hk0 : (0 : Int) ≤ (k : Int) := by omega
    by_cases hlt : k < n
    · have hin : (k : Int) < (n : Int) := by omega
      obtain ⟨f, rfl⟩ : ∃ f, gk = f + 1 := ⟨gk - 1, by omega⟩
      obtain ⟨b1, off1, u1, rfl, _, hu1, hcell1⟩ := (hr.below hbx).at_ (k := k) hlt
      obtain ⟨x, hx, rfl⟩ := i64_at hu1
      obtain ⟨b2, off2, u2, rfl, _, hu2, hcell2⟩ := (hr'.below hbx).at_ (k := k) hlt
      obtain ⟨y, hy, rfl⟩ := i64_at hu2
      have hstep : Dc.sizeL (a.drop k) (b.drop k) = if x < y then -1 else if y < x then 1 else Dc.sizeL (a.drop (k + 1)) (b.drop (k + 1)) := by
        obtain ⟨h1, e1⟩ := List.getElem?_eq_some_iff.1 hx
        obtain ⟨h2, e2⟩ := List.getElem?_eq_some_iff.1 hy
        rw [List.drop_eq_getElem_cons h1, List.drop_eq_getElem_cons h2, e1, e2, Dc.sizeL]
      have hst := HSK.out
      rw [hstep] at hst
      have HST := Lib.hid hst
      clear hstep hst hx hy hu1 hu2
      by_cases c1 : x < y
      · have c1i : (x : Int) < (y : Int) := by omega
        have hv : S = -1 := by have := HST.out; rw [if_pos c1] at this; exact this.symm
        have HV := Lib.hid hv
        clear hv
        go_wp2_with fail
        go_quiet (fail)
        go_wp2_with fail
        go_ret
        exact ⟨by rw [HV.out]; rfl, by first | exact hbx | exact below_drewN hbx _ | exact below_drewN (below_drewN hbx _) _⟩
      · have c1i : ¬ (x : Int) < (y : Int) := by omega
        by_cases c2 : y < x
        · have c2i : (y : Int) < (x : Int) := by omega
          have hv : S = 1 := by have := HST.out; rw [if_neg c1, if_pos c2] at this; exact this.symm
          have HV := Lib.hid hv
          clear hv
          go_wp2_with fail
          go_quiet (fail)
          go_wp2_with fail
          go_quiet (fail)
          go_wp2_with fail
          go_ret
          exact ⟨by rw [HV.out]; rfl, by first | exact hbx | exact below_drewN hbx _ | exact below_drewN (below_drewN hbx _) _⟩
        · have c2i : ¬ (y : Int) < (x : Int) := by omega
          have hv : Dc.sizeL (a.drop (k + 1)) (b.drop (k + 1)) = S := by have := HST.out; rw [if_neg c1, if_neg c2] at this; exact this
          have HV := Lib.hid hv
          clear hv
          go_wp2_with fail
          go_quiet (fail)
          go_wp2_with fail
          go_quiet (fail)
          go_wp2_with fail
          go_roundg f
          case measure => omega
          case rel => exact ⟨k + 1, by go_num, by omega, by omega, by first | exact hbx | exact below_drewN hbx _ | exact below_drewN (below_drewN hbx _) _, HV.out⟩
    · obtain rfl : k = n := by omega
      have hin : ¬ (k : Int) < (k : Int) := by omega
      have hv : S = 0 := by
        have := HSK.out
        rw [List.drop_eq_nil_of_le (by rw [HLA.out.1]; exact Nat.le_refl _), List.drop_eq_nil_of_le (by rw [HLA.out.2]; exact Nat.le_refl _)] at this
        exact this.symm
      have HV := Lib.hid hv
      clear hv
      go_wp2_with fail
      go_ret
      exact ⟨by rw [HV.out]; rfl, hbx⟩
end Go.Proofs.YtmgafnflkfbckaaGreatDoor
