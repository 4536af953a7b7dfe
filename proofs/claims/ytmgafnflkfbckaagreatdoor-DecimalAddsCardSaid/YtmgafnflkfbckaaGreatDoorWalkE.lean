/- The contracts of bytes, run, small. -/
import Derived.Test.YtmgafnflkfbckaaGreatDoorWalkD
namespace Go.Proofs.YtmgafnflkfbckaaGreatDoor
open Go.RowKit Go.Lib

theorem byte_at {s : ByteArray} {k : Nat} (h : k < s.size) {d : UInt8} (hd : s[k]'h = d) : s.data.toList[k]? = some d := by
  rw [← hd]
  simp [h]
  rfl
theorem byte_ne {d c : UInt8} {n : Int} (hn : (c.toNat : Int) = n) (h : ¬ d = c) : ((d.toNat : Int) == n) = false := by
  subst hn
  simp only [beq_eq_false_iff_ne, ne_eq]
  intro h'
  exact h (UInt8.toNat_inj.1 (by omega))
theorem data_len (s : ByteArray) : s.data.toList.length = s.size := by simp

namespace Dc
/-- How many digits stand at the beginning. -/
def runN (l : List UInt8) : Nat := (l.takeWhile isDig).length
theorem runN_le (l : List UInt8) : runN l ≤ l.length := (List.takeWhile_prefix (p := isDig) (l := l)).length_le
theorem runN_is {l : List UInt8} : ∀ {k : Nat}, k ≤ l.length → (∀ j d, j < k → l[j]? = some d → isDig d = true) → (k = l.length ∨ ∃ d, l[k]? = some d ∧ isDig d = false) → runN l = k := by
  induction l with
  | nil => intro k hk _ _; simp at hk; subst hk; rfl
  | cons b l ih =>
    intro k hk h1 h2
    cases k with
    | zero =>
      rcases h2 with h | ⟨d, hd, h⟩
      · simp at h
      · simp at hd; subst hd
        rw [runN, List.takeWhile_cons_of_neg (by simp [h])]; rfl
    | succ k =>
      have hb : isDig b = true := h1 0 b (by omega) rfl
      rw [runN, List.takeWhile_cons_of_pos hb, List.length_cons]
      congr 1
      refine ih (by simpa using hk) (fun j d hj hd => h1 (j + 1) d (by omega) (by simpa using hd)) ?_
      rcases h2 with h | ⟨d, hd, h⟩
      · left; simpa using h
      · exact Or.inr ⟨d, by simpa using hd, h⟩
theorem runN_dig {l : List UInt8} : (l.take (runN l)).all isDig = true := by
  have e : l.take (runN l) = l.takeWhile isDig := (List.prefix_iff_eq_take.1 (List.takeWhile_prefix (p := isDig))).symm
  rw [e]
  induction l with
  | nil => rfl
  | cons b l ih =>
    by_cases hb : isDig b = true
    · have e2 : l.take (runN l) = l.takeWhile isDig := (List.prefix_iff_eq_take.1 (List.takeWhile_prefix (p := isDig))).symm
      rw [List.takeWhile_cons_of_pos hb, List.all_cons, hb, ih e2]; rfl
    · rw [List.takeWhile_cons_of_neg hb]; rfl
/-- The number of some digits, at most K. -/
def smallN (K : Nat) (l : List UInt8) : Nat := l.foldl (fun n b => min (10 * n + (b.toNat - 48)) K) 0
theorem smallN_next {K : Nat} {l : List UInt8} {k : Nat} {d : UInt8} (h : l[k]? = some d) : smallN K (l.take (k + 1)) = min (10 * smallN K (l.take k) + (d.toNat - 48)) K := by
  rw [List.take_add_one, h]
  simp [smallN, List.foldl_append]
theorem smallN_le (K : Nat) (l : List UInt8) : smallN K l ≤ K := by
  rcases List.eq_nil_or_concat l with rfl | ⟨l', b, rfl⟩
  · exact Nat.zero_le _
  · simp [smallN, List.foldl_append]; exact Nat.min_le_right _ _
end Dc

set_option maxHeartbeats 1000000 in
set_option maxRecDepth 100000 in
theorem bytes_any (s : ByteArray) (w : World) (hall : s.data.toList.all Dc.isDig = true) (hs : s.size ≤ 1073741824) :
    Calls Tryz.prog 45 #[.string s] w fun x w' => ∃ G : Nat, x = .returned (.slice (some ⟨G, 0, none⟩) s.size s.size) ∧ Reads w' w'.heap.size (some ⟨G, 0, none⟩) s.size (u8s (Dc.vals s.data.toList)) ∧ Below w.heap.size w w' := by
  obtain ⟨n, hn⟩ : ∃ n, s.size = n := ⟨_, rfl⟩
  have hmk := fun W => make_bytes s.size (by omega) W
  obtain ⟨V, hV⟩ : ∃ V, u8s (Dc.vals s.data.toList) = V := ⟨_, rfl⟩
  have hVl : V.length = s.size := by rw [← hV, u8s_len, Dc.vals, List.length_map, data_len]
  have e0 : u8s (List.replicate s.size 0) = fillL V (.int .u8 0) 0 s.size := by rw [fillL_zero]; simp [u8s]
  rw [e0] at hmk
  have HV := Lib.hid hV
  have HVL := Lib.hid hVl
  clear hV hVl e0 hn
  go_enter Tryz.func45, Tryz.ntmps45
  go_wp2
  have hb0 : Below w.heap.size w (w.alloc (.cells (fillL V (.int .u8 0) 0 s.size).toArray 5)) := (Below.refl _ _).alloc (Nat.le_refl _) _
  have hG0 : (w.alloc (.cells (fillL V (.int .u8 0) 0 s.size).toArray 5)).heap[w.heap.size]? = some (.cells (fillL V (.int .u8 0) 0 s.size).toArray 5 (0, 0)) := heap_alloc_new w _
  go_loopg [10] s.size (fun f i wx => ∃ k : Nat, i = .int .i64 k ∧ k ≤ s.size ∧ s.size ≤ k + f ∧ Below w.heap.size w wx ∧ wx.heap[w.heap.size]? = some (.cells (fillL V (.int .u8 0) k s.size).toArray 5 (0, 0)))
  case atStart => exact ⟨0, rfl, by omega, by omega, hb0, hG0⟩
  case round =>
    obtain ⟨k, rfl, hk, hf, hbx, hGx⟩ := hrel
    by_cases hlt : k < s.size
    · obtain ⟨f, rfl⟩ : ∃ f, gk = f + 1 := ⟨gk - 1, by omega⟩
      have hin : (k : Int) < (s.size : Int) := by omega
      have hk0 : (0 : Int) ≤ k := by omega
      obtain ⟨d, hd⟩ : ∃ d : UInt8, s[k]'hlt = d := ⟨_, rfl⟩
      have hd' := byte_at hlt hd
      have hdig := Dc.isDig_iff.1 (List.all_eq_true.1 hall d (List.mem_of_getElem? hd'))
      have hwr : IntKind.u8.wrap ((d.toNat : Int) - 48) = (d.toNat : Int) - 48 := by rw [IntKind.wrap_u8]; omega
      have hVk : V[k]? = some (.int .u8 ((d.toNat : Int) - 48)) := by
        rw [← HV.out]
        have h1 : (Dc.vals s.data.toList)[k]? = some (d.toNat - 48) := by rw [Dc.vals, List.getElem?_map, hd']; rfl
        have h2 := u8s_get h1
        rw [h2, show ((d.toNat - 48 : Nat) : Int) = (d.toNat : Int) - 48 by omega]
      obtain ⟨uu, huu⟩ : ∃ uu, (fillL V (.int .u8 0) k s.size)[k]? = some uu := ⟨_, List.getElem?_eq_getElem (by rw [fillL_len HVL.out (by omega)]; exact hlt)⟩
      have q0 := at_block hGx k uu (by simpa using huu)
      have f0 := free_block hGx k
      have HGX := Lib.hid hGx
      have HVK := Lib.hid hVk
      clear hGx hVk huu hd' hdig
      go_wp2
      go_roundg f
      case measure => omega
      case rel =>
        refine ⟨k + 1, by go_num, by omega, by omega, hbx.setCell (p := ⟨w.heap.size, k, none⟩) (Nat.le_refl _) _, ?_⟩
        rw [← fillL_set HVL.out hlt HVK.out]
        exact block_set HGX.out k _
    · obtain rfl : k = s.size := by omega
      have hin : ¬ (s.size : Int) < (s.size : Int) := by omega
      rw [fillL_all HVL.out] at hGx
      have hR := Reads.of_block hGx
      rw [HVL.out] at hR
      have HR := Lib.hid hR
      clear hR hGx
      go_wp2
      go_ret
      exact ⟨w.heap.size, rfl, by rw [HV.out]; exact HR.out, hbx⟩

set_option maxHeartbeats 1000000 in
set_option maxRecDepth 100000 in
theorem run_any (s : ByteArray) (w : World) (hs : s.size ≤ 1073741824) : Calls Tryz.prog 51 #[.string s] w fun x w' => x = .returned (.int .i64 (Dc.runN s.data.toList : Int)) ∧ w' = w := by
  go_enter Tryz.func51, Tryz.ntmps51
  go_wp2
  go_loopg [3] s.size (fun f i wx => ∃ k : Nat, i = .int .i64 k ∧ k ≤ s.size ∧ s.size ≤ k + f ∧ wx = w ∧ ∀ j d, j < k → s.data.toList[j]? = some d → Dc.isDig d = true)
  case atStart => exact ⟨0, rfl, by omega, by omega, rfl, fun j d hj => absurd hj (by omega)⟩
  case round =>
    obtain ⟨k, rfl, hk, hf, rfl, hall⟩ := hrel
    have HA := Lib.hid hall
    clear hall
    have hk0 : (0 : Int) ≤ k := by omega
    by_cases hlt : k < s.size
    · have hin : (k : Int) < (s.size : Int) := by omega
      obtain ⟨d, hd⟩ : ∃ d : UInt8, s[k]'hlt = d := ⟨_, rfl⟩
      have HD := Lib.hid (byte_at hlt hd)
      by_cases h1 : 48 ≤ d.toNat
      · have h1i : (48 : Int) ≤ (d.toNat : Int) := by omega
        by_cases h2 : d.toNat ≤ 57
        · have h2i : (d.toNat : Int) ≤ 57 := by omega
          obtain ⟨f, rfl⟩ : ∃ f, gk = f + 1 := ⟨gk - 1, by omega⟩
          go_wp2
          go_roundg f
          case measure => omega
          case rel =>
            refine ⟨k + 1, by go_num, by omega, by omega, rfl, fun j d' hj hd' => ?_⟩
            by_cases hjk : j = k
            · subst hjk
              rw [HD.out] at hd'
              cases hd'
              exact Dc.isDig_iff.2 ⟨h1, h2⟩
            · exact HA.out j d' (by omega) hd'
        · have h2i : ¬ (d.toNat : Int) ≤ 57 := by omega
          go_wp2
          go_ret
          refine ⟨?_, rfl⟩
          rw [Dc.runN_is (k := k) (by rw [data_len]; omega) HA.out (Or.inr ⟨d, HD.out, by rw [← Bool.not_eq_true, Dc.isDig_iff]; omega⟩)]
          rfl
      · have h1i : ¬ (48 : Int) ≤ (d.toNat : Int) := by omega
        go_wp2
        go_ret
        refine ⟨?_, rfl⟩
        rw [Dc.runN_is (k := k) (by rw [data_len]; omega) HA.out (Or.inr ⟨d, HD.out, by rw [← Bool.not_eq_true, Dc.isDig_iff]; omega⟩)]
        rfl
    · obtain rfl : k = s.size := by omega
      have hin : ¬ (s.size : Int) < (s.size : Int) := by omega
      go_wp2
      go_ret
      refine ⟨?_, rfl⟩
      rw [Dc.runN_is (k := s.size) (by rw [data_len]; omega) HA.out (Or.inl (by rw [data_len]))]
      rfl

set_option maxHeartbeats 1000000 in
set_option maxRecDepth 100000 in
theorem small_any (s : ByteArray) (w : World) (hall : s.data.toList.all Dc.isDig = true) (hs : s.size ≤ 1073741824) : Calls Tryz.prog 52 #[.string s] w fun x w' => x = .returned (.int .i64 (Dc.smallN 1099511627776 s.data.toList : Int)) ∧ w' = w := by
  go_enter Tryz.func52, Tryz.ntmps52
  go_wp2
  go_loopg [3, 7] s.size (fun f t i wx => ∃ (k N : Nat), t = .int .i64 N ∧ N ≤ 1099511627776 ∧ Dc.smallN 1099511627776 (s.data.toList.take k) = N ∧ i = .int .i64 k ∧ k ≤ s.size ∧ s.size ≤ k + f ∧ wx = w)
  case atStart => exact ⟨0, 0, rfl, by omega, by simp [Dc.smallN], rfl, by omega, by omega, rfl⟩
  case round =>
    obtain ⟨k, N, rfl, hN, hNe, rfl, hk, hf, rfl⟩ := hrel
    have HN := Lib.hid hNe
    clear hNe
    have hk0 : (0 : Int) ≤ k := by omega
    by_cases hlt : k < s.size
    · have hin : (k : Int) < (s.size : Int) := by omega
      obtain ⟨f, rfl⟩ : ∃ f, gk = f + 1 := ⟨gk - 1, by omega⟩
      obtain ⟨d, hd⟩ : ∃ d : UInt8, s[k]'hlt = d := ⟨_, rfl⟩
      have hd' := byte_at hlt hd
      have hdig := Dc.isDig_iff.1 (List.all_eq_true.1 hall d (List.mem_of_getElem? hd'))
      have hnx := Dc.smallN_next (K := 1099511627776) hd'
      rw [HN.out] at hnx
      have hwr : IntKind.u8.wrap ((d.toNat : Int) - 48) = (d.toNat : Int) - 48 := by rw [IntKind.wrap_u8]; omega
      have hwi : IntKind.i64.wrap ((d.toNat : Int) - 48) = (d.toNat : Int) - 48 := IntWalk.i64_in _ (by omega)
      have hlo : (48 : Int) ≤ (d.toNat : Int) := by omega
      have hhi : (d.toNat : Int) ≤ 57 := by omega
      have hws : IntKind.i64.wrap (10 * (N : Int) + ((d.toNat : Int) - 48)) = 10 * (N : Int) + ((d.toNat : Int) - 48) := IntWalk.i64_in _ (by omega)
      have HNX := Lib.hid hnx
      have HDG := Lib.hid hdig
      clear hnx hd' hdig
      by_cases hbig : (1099511627776 : Int) < 10 * (N : Int) + ((d.toNat : Int) - 48)
      · go_wp2
        go_roundg f
        case measure => omega
        case rel =>
          refine ⟨k + 1, 1099511627776, by go_num, by omega, ?_, by go_num, by omega, by omega, rfl⟩
          have := HDG.out
          rw [HNX.out]; omega
      · go_wp2
        go_roundg f
        case measure => omega
        case rel =>
          have := HDG.out
          refine ⟨k + 1, 10 * N + (d.toNat - 48), by go_num, by omega, ?_, by go_num, by omega, by omega, rfl⟩
          rw [HNX.out]; omega
    · obtain rfl : k = s.size := by omega
      have hin : ¬ (s.size : Int) < (s.size : Int) := by omega
      have e : s.data.toList.take s.size = s.data.toList := List.take_of_length_le (by rw [data_len]; omega)
      have HE := Lib.hid e
      clear e
      go_wp2
      go_ret
      refine ⟨?_, rfl⟩
      have := HN.out
      rw [HE.out] at this
      rw [this]
      rfl
end Go.Proofs.YtmgafnflkfbckaaGreatDoor
