/- bytes once more, with the block it makes; the contracts of Valid, Parts, Of. -/
import Derived.Test.YtmgafnflkfbckaaGreatDoorWalkG
namespace Go.Proofs.YtmgafnflkfbckaaGreatDoor
open Go.RowKit Go.Lib

set_option maxHeartbeats 1000000 in
set_option maxRecDepth 100000 in
theorem bytes_own (s : ByteArray) (w : World) (hall : s.data.toList.all Dc.isDig = true) (hs : s.size ≤ 1073741824) :
    Calls Tryz.prog 45 #[.string s] w fun x w' => ∃ G : Nat, x = .returned (.slice (some ⟨G, 0, none⟩) s.size s.size) ∧ w.heap.size ≤ G ∧ w'.heap[G]? = some (.cells (u8s (Dc.vals s.data.toList)).toArray 5 (0, 0)) ∧ Below w.heap.size w w' := by
  obtain ⟨n, hn⟩ : ∃ n, s.size = n := ⟨_, rfl⟩
  have hmk := fun W => make_bytes s.size (by omega) W
  obtain ⟨V, hV⟩ : ∃ V, u8s (Dc.vals s.data.toList) = V := ⟨_, rfl⟩
  have hVl : V.length = s.size := by rw [← hV, u8s_len, Dc.vals, List.length_map, data_len]
  have e0 : u8s (List.replicate s.size 0) = fillL V (.int .u8 0) 0 s.size := by rw [fillL_zero]; simp [u8s]
  rw [e0] at hmk
  have HV := Lib.hid hV
  have HVL := Lib.hid hVl
  clear hV hVl e0 hn
  go_enter Tryz.func45, Tryz.ntmps45
  go_wp2
  have hb0 : Below w.heap.size w (w.alloc (.cells (fillL V (.int .u8 0) 0 s.size).toArray 5)) := (Below.refl _ _).alloc (Nat.le_refl _) _
  have hG0 : (w.alloc (.cells (fillL V (.int .u8 0) 0 s.size).toArray 5)).heap[w.heap.size]? = some (.cells (fillL V (.int .u8 0) 0 s.size).toArray 5 (0, 0)) := heap_alloc_new w _
  go_loopg [10] s.size (fun f i wx => ∃ k : Nat, i = .int .i64 k ∧ k ≤ s.size ∧ s.size ≤ k + f ∧ Below w.heap.size w wx ∧ wx.heap[w.heap.size]? = some (.cells (fillL V (.int .u8 0) k s.size).toArray 5 (0, 0)))
  case atStart => exact ⟨0, rfl, by omega, by omega, hb0, hG0⟩
  case round =>
    obtain ⟨k, rfl, hk, hf, hbx, hGx⟩ := hrel
    by_cases hlt : k < s.size
    · obtain ⟨f, rfl⟩ : ∃ f, gk = f + 1 := ⟨gk - 1, by omega⟩
      have hin : (k : Int) < (s.size : Int) := by omega
      have hk0 : (0 : Int) ≤ k := by omega
      obtain ⟨d, hd⟩ : ∃ d : UInt8, s[k]'hlt = d := ⟨_, rfl⟩
      have hd' := byte_at hlt hd
      have hdig := Dc.isDig_iff.1 (List.all_eq_true.1 hall d (List.mem_of_getElem? hd'))
      have hwr : IntKind.u8.wrap ((d.toNat : Int) - 48) = (d.toNat : Int) - 48 := by rw [IntKind.wrap_u8]; omega
      have hVk : V[k]? = some (.int .u8 ((d.toNat : Int) - 48)) := by
        rw [← HV.out]
        have h1 : (Dc.vals s.data.toList)[k]? = some (d.toNat - 48) := by rw [Dc.vals, List.getElem?_map, hd']; rfl
        have h2 := u8s_get h1
        rw [h2, show ((d.toNat - 48 : Nat) : Int) = (d.toNat : Int) - 48 by omega]
      obtain ⟨uu, huu⟩ : ∃ uu, (fillL V (.int .u8 0) k s.size)[k]? = some uu := ⟨_, List.getElem?_eq_getElem (by rw [fillL_len HVL.out (by omega)]; exact hlt)⟩
      have q0 := at_block hGx k uu (by simpa using huu)
      have f0 := free_block hGx k
      have HGX := Lib.hid hGx
      have HVK := Lib.hid hVk
      clear hGx hVk huu hd' hdig
      go_wp2
      go_roundg f
      case measure => omega
      case rel =>
        refine ⟨k + 1, by go_num, by omega, by omega, hbx.setCell (p := ⟨w.heap.size, k, none⟩) (Nat.le_refl _) _, ?_⟩
        rw [← fillL_set HVL.out hlt HVK.out]
        exact block_set HGX.out k _
    · obtain rfl : k = s.size := by omega
      have hin : ¬ (s.size : Int) < (s.size : Int) := by omega
      rw [fillL_all HVL.out] at hGx
      have HR := Lib.hid hGx
      clear hGx
      go_wp2
      go_ret
      exact ⟨w.heap.size, rfl, Nat.le_refl _, by rw [HV.out]; exact HR.out, hbx⟩

theorem read_none (s : ByteArray) (w : World) (hs : s.size ≤ 536870912) (hL : Laid w) (h : Dc.readP s.data.toList = none) : Calls Tryz.prog 23 #[.string s] w fun x w' => (∃ g A n e, x = .returned (.tuple #[.agg #[.bool g, .slice A n n, .int .i64 e], .bool false])) ∧ Below w.heap.size w w' := by
  refine (read_any s w hs hL).mono ?_
  rintro x w' ⟨⟨g, A, n, e, rfl, _⟩, hb⟩
  exact ⟨⟨g, A, n, e, by rw [h]; rfl⟩, hb⟩
theorem read_some (s : ByteArray) (w : World) (hs : s.size ≤ 536870912) (hL : Laid w) (y : Dc.D) (h : Dc.readP s.data.toList = some y) : Calls Tryz.prog 23 #[.string s] w fun x w' => ∃ A, x = .returned (.tuple #[.agg #[.bool y.neg, .slice A y.c.length y.c.length, .int .i64 y.e], .bool true]) ∧ Reads w' w'.heap.size A y.c.length (u8s y.c) ∧ Below w.heap.size w w' := by
  refine (read_any s w hs hL).mono ?_
  rintro x w' ⟨⟨g, A, n, e, rfl, hy⟩, hb⟩
  obtain ⟨rfl, rfl, rfl, hr⟩ := hy y h
  exact ⟨A, by rw [h]; rfl, hr, hb⟩

/-- What Parts answers. -/
def partsV (r : Option Dc.D) : Value := match r with
  | none => .tuple #[.string ⟨#[]⟩, .int .i64 0, .int .i64 3]
  | some y => .tuple #[.string ⟨(Dc.coefB y).toArray⟩, .int .i64 y.e, .int .i64 0]
end Go.Proofs.YtmgafnflkfbckaaGreatDoor
