/- The contracts of sign, limit, digits, coef, text, result. -/
import Derived.Test.YtmgafnflkfbckaaGreatDoorWalkA
import Derived.Test.YtmgafnflkfbckaaGreatDoorShelf
namespace Go.Proofs.YtmgafnflkfbckaaGreatDoor
open Go.RowKit Go.Lib

set_option maxHeartbeats 1000000 in
set_option maxRecDepth 100000 in
theorem sign_any (g : Bool) (A : Option Addr) (n c : Nat) (e : Int) (w : World) : Calls Tryz.prog 33 #[.agg #[.bool g, .slice A n c, .int .i64 e]] w fun x w' => x = .returned (.string ⟨(Dc.sgnB g).toArray⟩) ∧ Below w.heap.size w w' := by
  cases g with
  | true =>
    go_enter Tryz.func33, Tryz.ntmps33
    go_wp2
    go_ret
    exact ⟨rfl, (Below.refl _ _).alloc (Nat.le_refl _) _⟩
  | false =>
    go_enter Tryz.func33, Tryz.ntmps33
    go_wp2
    go_ret
    exact ⟨rfl, (Below.refl _ _).alloc (Nat.le_refl _) _⟩

/-- The error of a number's limits. -/
def limN (n : Nat) (e : Int) : Nat := if 400 < n then 6 else if e < -2000 ∨ 2000 < e then 2 else 0
theorem limN_eq (x : Dc.D) : limN x.c.length x.e = Dc.limit x := rfl
set_option maxHeartbeats 1000000 in
set_option maxRecDepth 100000 in
theorem limit_any (g : Bool) (A : Option Addr) (n c : Nat) (e : Int) (w : World) : Calls Tryz.prog 46 #[.agg #[.bool g, .slice A n c, .int .i64 e]] w fun x w' => x = .returned (.int .i64 (limN n e : Int)) ∧ Below w.heap.size w w' := by
  by_cases h1 : 400 < n
  · rw [limN, if_pos h1]
    have hi : (400 : Int) < n := by omega
    go_enter Tryz.func46, Tryz.ntmps46
    go_wp2
    go_ret
    exact ⟨rfl, (Below.refl _ _).alloc (Nat.le_refl _) _⟩
  · rw [limN, if_neg h1]
    have hi : ¬ (400 : Int) < n := by omega
    by_cases h2 : e < -2000
    · rw [if_pos (Or.inl h2)]
      go_enter Tryz.func46, Tryz.ntmps46
      go_wp2
      go_ret
      exact ⟨rfl, (Below.refl _ _).alloc (Nat.le_refl _) _⟩
    · by_cases h3 : 2000 < e
      · rw [if_pos (Or.inr h3)]
        go_enter Tryz.func46, Tryz.ntmps46
        go_wp2
        go_ret
        exact ⟨rfl, (Below.refl _ _).alloc (Nat.le_refl _) _⟩
      · rw [if_neg (by omega)]
        go_enter Tryz.func46, Tryz.ntmps46
        go_wp2
        go_ret
        exact ⟨rfl, (Below.refl _ _).alloc (Nat.le_refl _) _⟩

set_option maxHeartbeats 1000000 in
set_option maxRecDepth 100000 in
theorem digits_any (g : Bool) (A : Option Addr) (n : Nat) (l : List Nat) (e : Int) (w : World) (hr : Reads w w.heap.size A n (u8s l)) (hd : Dc.Digs l) (hn : n ≤ 1073741824) :
    Calls Tryz.prog 32 #[.agg #[.bool g, .slice A n n, .int .i64 e]] w fun x w' => x = .returned (.string ⟨(Dc.digB l).toArray⟩) ∧ Below w.heap.size w w' := by
  have hln : l.length = n := by have := hr.1; rwa [u8s_len] at this
  have hmk := fun W => make_bytes n (by omega) W
  obtain ⟨V, hV⟩ : ∃ V, u8s (l.map (48 + ·)) = V := ⟨_, rfl⟩
  have hVl : V.length = n := by rw [← hV, u8s_len, List.length_map, hln]
  have e0 : u8s (List.replicate n 0) = fillL V (.int .u8 0) 0 n := by rw [fillL_zero]; simp [u8s]
  rw [e0] at hmk
  have HV := Lib.hid hV
  have HVL := Lib.hid hVl
  have HLN := Lib.hid hln
  clear hV hVl hln e0
  go_enter Tryz.func32, Tryz.ntmps32
  go_wp2
  have hb0 : Below w.heap.size w ((w.alloc (.cells #[.bool g, .slice A n n, .int .i64 e] 46)).alloc (.cells (fillL V (.int .u8 0) 0 n).toArray 5)) := ((Below.refl _ _).alloc (Nat.le_refl _) _).alloc (by simp) _
  have hG0 : ((w.alloc (.cells #[.bool g, .slice A n n, .int .i64 e] 46)).alloc (.cells (fillL V (.int .u8 0) 0 n).toArray 5)).heap[w.heap.size + 1]? = some (.cells (fillL V (.int .u8 0) 0 n).toArray 5 (0, 0)) := by
    have := heap_alloc_new (w.alloc (.cells #[.bool g, .slice A n n, .int .i64 e] 46)) (.cells (fillL V (.int .u8 0) 0 n).toArray 5)
    simpa using this
  go_loopg [13] n (fun f i wx => ∃ k : Nat, i = .int .i64 k ∧ k ≤ n ∧ n ≤ k + f ∧ Below w.heap.size w wx ∧ wx.heap[w.heap.size + 1]? = some (.cells (fillL V (.int .u8 0) k n).toArray 5 (0, 0)))
  case atStart => exact ⟨0, rfl, by omega, by omega, hb0, hG0⟩
  case round =>
    obtain ⟨k, rfl, hk, hf, hbx, hGx⟩ := hrel
    by_cases hlt : k < n
    · obtain ⟨f, rfl⟩ : ∃ f, gk = f + 1 := ⟨gk - 1, by omega⟩
      have hin : (k : Int) < (n : Int) := by omega
      have hk0 : (0 : Int) ≤ k := by omega
      obtain ⟨b, off, u, hA, hbB, hu, hcell⟩ := (hr.below hbx).at_ (k := k) hlt
      obtain ⟨x, hx, rfl⟩ := u8_at hu
      have hx10 : x < 10 := hd x (List.mem_of_getElem? hx)
      have hwr : IntKind.u8.wrap (48 + (x : Int)) = 48 + (x : Int) := by rw [IntKind.wrap_u8]; omega
      have hVk : V[k]? = some (.int .u8 (48 + (x : Int))) := by
        rw [← HV.out]
        have : (l.map (48 + ·))[k]? = some (48 + x) := by simp [hx]
        have := u8s_get this
        simpa using this
      obtain ⟨uu, huu⟩ : ∃ uu, (fillL V (.int .u8 0) k n)[k]? = some uu := ⟨_, List.getElem?_eq_getElem (by rw [fillL_len HVL.out (by omega)]; exact hlt)⟩
      have q0 := at_block hGx k uu (by simpa using huu)
      have f0 := free_block hGx k
      have HGX := Lib.hid hGx
      have HVK := Lib.hid hVk
      have HA := Lib.hid hA
      clear hGx hVk huu hx hu
      subst hA
      go_wp2
      go_roundg f
      case measure => omega
      case rel =>
        refine ⟨k + 1, by go_num, by omega, by omega, hbx.setCell (p := ⟨w.heap.size + 1, k, none⟩) (by show w.heap.size ≤ w.heap.size + 1; omega) _, ?_⟩
        rw [← fillL_set HVL.out hlt HVK.out]
        exact block_set HGX.out k _
    · obtain rfl : k = n := by omega
      have hin : ¬ (k : Int) < (k : Int) := by omega
      rw [fillL_all HVL.out, ← HV.out] at hGx
      have hR := Reads.of_block hGx
      have hl2 : (u8s (l.map (48 + ·))).length = k := by rw [HV.out, HVL.out]
      rw [hl2] at hR
      have hcv := conv_bytes (c := k) hR (fun _ => ⟨_, _, rfl⟩)
      rw [List.map_map] at hcv
      have hfun : l.map (UInt8.ofNat ∘ (48 + ·)) = Dc.digB l := rfl
      rw [hfun] at hcv
      clear hR hGx hl2
      go_wp2
      go_ret
      exact ⟨rfl, hbx⟩
end Go.Proofs.YtmgafnflkfbckaaGreatDoor
