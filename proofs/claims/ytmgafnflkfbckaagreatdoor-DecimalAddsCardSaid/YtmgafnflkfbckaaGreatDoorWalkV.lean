/- The reference: digits. -/
import Derived.Test.YtmgafnflkfbckaaGreatDoorWalkU
import Derived.Test.YtmgafnflkfbckaaGreatDoorWalkE
import Derived.Test.YtmgafnflkfbckaaGreatDoorApp
namespace Go.Proofs.YtmgafnflkfbckaaGreatDoor
open Go.RowKit Go.Lib

theorem i64s_append (a b : List Nat) : i64s (a ++ b) = i64s a ++ i64s b := by simp [i64s]
theorem vals_take_succ {l : List UInt8} {k : Nat} {d : UInt8} (h : l[k]? = some d) : Dc.vals (l.take (k + 1)) = Dc.vals (l.take k) ++ [d.toNat - 48] := by
  rw [List.take_add_one, h]; simp [Dc.vals]
set_option maxHeartbeats 1000000 in
set_option maxRecDepth 100000 in
theorem refdigits_any (s : ByteArray) (a r z : Nat) (w : World) (hs : s.size ≤ 1073741824) (ha : a ≤ s.size) (hrz : Dc.runN (s.data.toList.drop a) = r) (hz : a + r = z) :
    Calls Tryz.prog 36 #[.string s, .int .i64 (a : Int)] w fun x w' => ∃ v, x = .returned (.tuple #[v, .int .i64 (z : Int)]) ∧
      w'.ownsRow w.heap.size 3 1 v r (i64s (Dc.vals ((s.data.toList.drop a).take r))) ∧ Below w.heap.size w w' := by
  have HZ := Lib.hid hz
  clear hz
  obtain ⟨i0, hi, hz0, hz1, hz2⟩ := info_parts info3
  obtain ⟨L, hL⟩ : ∃ L, s.data.toList.drop a = L := ⟨_, rfl⟩
  have hLl : a + L.length = s.size := by rw [← hL, List.length_drop, data_len]; omega
  have HLL := Lib.hid hLl
  have HL := Lib.hid hL
  rw [hL] at hrz
  rw [hL]
  have HRZ := Lib.hid hrz
  clear hL hLl hrz
  go_enter Tryz.func36, Tryz.ntmps36
  go_wp2
  go_loopg [1, 6] s.size (fun f i v wx => ∃ (k : Nat), i = .int .i64 ((a + k : Nat) : Int) ∧ a + k ≤ s.size ∧ s.size ≤ a + k + f ∧ wx.ownsRow w.heap.size 3 1 v k (i64s (Dc.vals (L.take k))) ∧ Below w.heap.size w wx ∧ ∀ j d, j < k → L[j]? = some d → Dc.isDig d = true)
  case atStart => exact ⟨0, by simp, by omega, by omega, World.ownsRow_nil _ _ _ _, Below.refl _ _, fun j d hj => absurd hj (by omega)⟩
  case round =>
    obtain ⟨k, rfl, hk, hf, hown, hbx, hall⟩ := hrel
    have HA := Lib.hid hall
    clear hall
    obtain ⟨q, hq⟩ : ∃ q, a + k = q := ⟨_, rfl⟩
    rw [hq] at hk hf
    rw [hq]
    have hkq : k ≤ q := by omega
    have HQ := Lib.hid hq
    clear hq
    have hk0 : (0 : Int) ≤ (q : Int) := by omega
    by_cases hlt : q < s.size
    · have hin : (q : Int) < (s.size : Int) := by omega
      obtain ⟨d, hd⟩ : ∃ d : UInt8, s[q]'hlt = d := ⟨_, rfl⟩
      have hdL : L[k]? = some d := by
        have := byte_at hlt hd
        rw [← HL.out, List.getElem?_drop, HQ.out]; exact this
      have HD := Lib.hid hdL
      clear hdL
      by_cases h1 : 48 ≤ d.toNat
      · have h1i : (48 : Int) ≤ (d.toNat : Int) := by omega
        by_cases h2 : d.toNat ≤ 57
        · have h2i : (d.toNat : Int) ≤ 57 := by omega
          obtain ⟨f, rfl⟩ : ∃ f, gk = f + 1 := ⟨gk - 1, by omega⟩
          have hwr : IntKind.u8.wrap ((d.toNat : Int) - 48) = (d.toNat : Int) - 48 := by rw [IntKind.wrap_u8]; omega
          have hwi : IntKind.i64.wrap ((d.toNat : Int) - 48) = (d.toNat : Int) - 48 := IntWalk.i64_in _ (by omega)
          go_wp2_with (at_builtin; refine wpList_append_own _ rfl _ _ 23 rfl w.heap.size 3 i0 (.int .i64 0) 1 8 Tryz.underlying23 hi hz0 hz1 hz2 rfl (by decide) _ _ _ rfl (hown.alloc _) ⟨wr.heap.size, 0, none⟩ 1 1 [.int .i64 ((d.toNat : Int) - 48)] rfl rfl ?c1 ?c2 ?c3 ?c4 ?c5 ?_)
          case c1 =>
            intro j u hj
            match j, hj with
            | 0, hj => simp at hj; subst hj; simp [Addr.add]
          case c2 => intro u hu; simp at hu; subst hu; rfl
          case c3 => unfold maxLen; omega
          case c4 => omega
          case c5 => have := hbx.size; simp; omega
          intro v' w3 hown3 hgr3 _
          have hb3 : Below w.heap.size w w3 := (hbx.alloc hbx.size _).grown hgr3 (by have := hbx.size; simp; omega) (fun k hk => (hown.lt k hk).1)
          clear hgr3
          go_wp2
          go_roundg f
          case measure => omega
          case rel =>
            have hqq := HQ.out
            refine ⟨k + 1, ?_, by omega, by omega, ?_, hb3, fun j d' hj hd' => ?_⟩
            · rw [← Nat.add_assoc, hqq]; go_num
            · rw [vals_take_succ HD.out, i64s_append]
              have e : ((d.toNat - 48 : Nat) : Int) = (d.toNat : Int) - 48 := by omega
              simpa [i64s, e] using hown3
            · by_cases hjk : j = k
              · subst hjk
                rw [HD.out] at hd'
                cases hd'
                exact Dc.isDig_iff.2 ⟨h1, h2⟩
              · exact HA.out j d' (by omega) hd'
        · have h2i : ¬ (d.toNat : Int) ≤ 57 := by omega
          have hr : Dc.runN L = k := Dc.runN_is (k := k) (by have := HLL.out; have := HQ.out; omega) HA.out (Or.inr ⟨d, HD.out, by rw [← Bool.not_eq_true, Dc.isDig_iff]; omega⟩)
          rw [HRZ.out] at hr
          subst hr
          have hqz : q = z := by rw [← HQ.out, HZ.out]
          subst hqz
          go_wp2
          go_ret2
          exact ⟨_, rfl, hown, hbx⟩
      · have h1i : ¬ (48 : Int) ≤ (d.toNat : Int) := by omega
        have hr : Dc.runN L = k := Dc.runN_is (k := k) (by have := HLL.out; have := HQ.out; omega) HA.out (Or.inr ⟨d, HD.out, by rw [← Bool.not_eq_true, Dc.isDig_iff]; omega⟩)
        rw [HRZ.out] at hr
        subst hr
        have hqz : q = z := by rw [← HQ.out, HZ.out]
        subst hqz
        go_wp2
        go_ret2
        exact ⟨_, rfl, hown, hbx⟩
    · obtain rfl : q = s.size := by omega
      have hin : ¬ (s.size : Int) < (s.size : Int) := by omega
      have hr : Dc.runN L = k := Dc.runN_is (k := k) (by have := HLL.out; have := HQ.out; omega) HA.out (Or.inl (by have := HLL.out; have := HQ.out; omega))
      rw [HRZ.out] at hr
      subst hr
      have hqz : s.size = z := by rw [← HQ.out, HZ.out]
      subst hqz
      go_wp2
      go_ret2
      exact ⟨_, rfl, hown, hbx⟩
end Go.Proofs.YtmgafnflkfbckaaGreatDoor
