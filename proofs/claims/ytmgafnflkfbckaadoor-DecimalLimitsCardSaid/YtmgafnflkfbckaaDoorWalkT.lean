/- The reference: word. -/
import Derived.Test.YtmgafnflkfbckaaDoorWalkS
namespace Go.Proofs.YtmgafnflkfbckaaDoor
open Go.RowKit Go.Lib

theorem word_next {l : List Nat} {k x : Nat} (h : l[k]? = some x) (hx : x < 10) : (⟨(Dc.digB (l.take k)).toArray⟩ ++ ⟨(Lib.itoa (x : Int)).toArray⟩ : ByteArray) = ⟨(Dc.digB (l.take (k + 1))).toArray⟩ := by
  rw [str_append, Lib.itoa_nonneg, Lib.decDigits_one hx, List.take_add_one, h]
  simp [Dc.digB]
set_option maxHeartbeats 1000000 in
set_option maxRecDepth 100000 in
theorem word_any (A : Option Addr) (n c : Nat) (l : List Nat) (w : World) (hr : Reads w w.heap.size A n (i64s l)) (hd : Dc.Digs l) (hn : n ≤ 1048576) :
    Calls Tryd.prog 43 #[.slice A n c] w fun x w' => x = .returned (.string ⟨(Dc.digB l).toArray⟩) ∧ Below w.heap.size w w' := by
  have hln : l.length = n := by have := hr.1; rwa [i64s_len] at this
  obtain ⟨Z, hZ⟩ : ∃ Z : ByteArray, ⟨(Dc.digB l).toArray⟩ = Z := ⟨_, rfl⟩
  rw [hZ]
  have HZ := Lib.hid hZ
  have HLN := Lib.hid hln
  clear hZ hln
  go_enter Tryd.func43, Tryd.ntmps43
  go_wp2
  go_loopg [3, 4] n (fun f t i wx => ∃ (k : Nat) (T : ByteArray), t = .string T ∧ T = ⟨(Dc.digB (l.take k)).toArray⟩ ∧ i = .int .i64 (k : Int) ∧ k ≤ n ∧ n ≤ k + f ∧ Below w.heap.size w wx)
  case atStart => exact ⟨0, ⟨#[]⟩, rfl, by simp [Dc.digB], rfl, by omega, by omega, Below.refl _ _⟩
  case round =>
    obtain ⟨k, T, rfl, hT, rfl, hk, hf, hbx⟩ := hrel
    have hTs : T.size ≤ k := by rw [hT, str_size, Dc.digB_len, List.length_take]; omega
    have HT := Lib.hid hT
    clear hT
    by_cases hlt : k < n
    · have hin : (k : Int) < (n : Int) := by omega
      have hk0 : (0 : Int) ≤ (k : Int) := by omega
      obtain ⟨f, rfl⟩ : ∃ f, gk = f + 1 := ⟨gk - 1, by omega⟩
      obtain ⟨b, off, u, hA, hbB, hu, hcell⟩ := (hr.below hbx).at_ (k := k) hlt
      obtain ⟨x, hx, rfl⟩ := i64_at hu
      have hx10 : x < 10 := hd x (List.mem_of_getElem? hx)
      obtain ⟨S, hS⟩ : ∃ S : ByteArray, ⟨(Lib.itoa (x : Int)).toArray⟩ = S := ⟨_, rfl⟩
      have hSs : S.size ≤ 20 := by rw [← hS, str_size]; exact itoa_len _ (by omega) (by omega)
      have hnx : T ++ S = ⟨(Dc.digB (l.take (k + 1))).toArray⟩ := by rw [HT.out, ← hS, word_next hx hx10]
      have hadd := fun W => run_string_add_sum (P := Tryd.prog) (w := W) T S (by omega)
      have NB := Lib.hid (fun W => number_any (x : Int) W (by omega) (by omega))
      rw [hS] at NB
      have HNX := Lib.hid hnx
      have HA := Lib.hid hA
      clear hS hnx hu hx
      subst hA
      go_wp2_with fail
      refine (NB.out _).mono ?_
      rintro e w7 ⟨rfl, hb7⟩
      go_wp2_with fail
      go_roundg f
      case measure => omega
      case rel => exact ⟨k + 1, _, rfl, HNX.out, by go_num, by omega, by omega, hbx.trans (hb7.mono hbx.size)⟩
    · obtain rfl : k = n := by omega
      have hin : ¬ (k : Int) < (k : Int) := by omega
      have hfin : T = Z := by rw [HT.out, ← HZ.out, List.take_of_length_le (by rw [HLN.out]; exact Nat.le_refl _)]
      have HF := Lib.hid hfin
      clear hfin
      go_wp2
      go_ret
      exact ⟨by rw [← HF.out]; rfl, hbx⟩
end Go.Proofs.YtmgafnflkfbckaaDoor
