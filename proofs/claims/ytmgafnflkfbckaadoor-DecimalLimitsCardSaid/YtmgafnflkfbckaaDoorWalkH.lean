/- bytes once more, with the block it makes; the contracts of Valid, Parts, Of. -/
import Derived.Test.YtmgafnflkfbckaaDoorWalkG
namespace Go.Proofs.YtmgafnflkfbckaaDoor
open Go.RowKit Go.Lib

set_option maxHeartbeats 1000000 in
set_option maxRecDepth 100000 in
theorem bytes_own (s : ByteArray) (w : World) (hall : s.data.toList.all Dc.isDig = true) (hs : s.size ≤ 1073741824) :
    Calls Tryd.prog 49 #[.string s] w fun x w' => ∃ G : Nat, x = .returned (.slice (some ⟨G, 0, none⟩) s.size s.size) ∧ w.heap.size ≤ G ∧ w'.heap[G]? = some (.cells (u8s (Dc.vals s.data.toList)).toArray 5 (0, 0)) ∧ Below w.heap.size w w' := by
  obtain ⟨n, hn⟩ : ∃ n, s.size = n := ⟨_, rfl⟩
  have hmk := fun W => make_bytes s.size (by omega) W
  obtain ⟨V, hV⟩ : ∃ V, u8s (Dc.vals s.data.toList) = V := ⟨_, rfl⟩
  have hVl : V.length = s.size := by rw [← hV, u8s_len, Dc.vals, List.length_map, data_len]
  have e0 : u8s (List.replicate s.size 0) = fillL V (.int .u8 0) 0 s.size := by rw [fillL_zero]; simp [u8s]
  rw [e0] at hmk
  have HV := Lib.hid hV
  have HVL := Lib.hid hVl
  clear hV hVl e0 hn
  go_enter Tryd.func49, Tryd.ntmps49
  go_wp2
  have hb0 : Below w.heap.size w (w.alloc (.cells (fillL V (.int .u8 0) 0 s.size).toArray 5)) := (Below.refl _ _).alloc (Nat.le_refl _) _
  have hG0 : (w.alloc (.cells (fillL V (.int .u8 0) 0 s.size).toArray 5)).heap[w.heap.size]? = some (.cells (fillL V (.int .u8 0) 0 s.size).toArray 5 (0, 0)) := heap_alloc_new w _
  go_loopg [10] s.size (fun f i wx => ∃ k : Nat, i = .int .i64 k ∧ k ≤ s.size ∧ s.size ≤ k + f ∧ Below w.heap.size w wx ∧ wx.heap[w.heap.size]? = some (.cells (fillL V (.int .u8 0) k s.size).toArray 5 (0, 0)))
  case atStart => exact ⟨0, rfl, by omega, by omega, hb0, hG0⟩
  case round =>
    obtain ⟨k, rfl, hk, hf, hbx, hGx⟩ := hrel
    by_cases hlt : k < s.size
    · obtain ⟨f, rfl⟩ : ∃ f, gk = f + 1 := ⟨gk - 1, by omega⟩
      have hin : (k : Int) < (s.size : Int) := by omega
      have hk0 : (0 : Int) ≤ k := by omega
      obtain ⟨d, hd⟩ : ∃ d : UInt8, s[k]'hlt = d := ⟨_, rfl⟩
      have hd' := byte_at hlt hd
      have hdig := Dc.isDig_iff.1 (List.all_eq_true.1 hall d (List.mem_of_getElem? hd'))
      have hwr : IntKind.u8.wrap ((d.toNat : Int) - 48) = (d.toNat : Int) - 48 := by rw [IntKind.wrap_u8]; omega
      have hVk : V[k]? = some (.int .u8 ((d.toNat : Int) - 48)) := by
        rw [← HV.out]
        have h1 : (Dc.vals s.data.toList)[k]? = some (d.toNat - 48) := by rw [Dc.vals, List.getElem?_map, hd']; rfl
        have h2 := u8s_get h1
        rw [h2, show ((d.toNat - 48 : Nat) : Int) = (d.toNat : Int) - 48 by omega]
      obtain ⟨uu, huu⟩ : ∃ uu, (fillL V (.int .u8 0) k s.size)[k]? = some uu := ⟨_, List.getElem?_eq_getElem (by rw [fillL_len HVL.out (by omega)]; exact hlt)⟩
      have q0 := at_block hGx k uu (by simpa using huu)
      have f0 := free_block hGx k
      have HGX := Lib.hid hGx
      have HVK := Lib.hid hVk
      clear hGx hVk huu hd' hdig
      go_wp2
      go_roundg f
      case measure => omega
      case rel =>
        refine ⟨k + 1, by go_num, by omega, by omega, hbx.setCell (p := ⟨w.heap.size, k, none⟩) (Nat.le_refl _) _, ?_⟩
        rw [← fillL_set HVL.out hlt HVK.out]
        exact block_set HGX.out k _
    · obtain rfl : k = s.size := by omega
      have hin : ¬ (s.size : Int) < (s.size : Int) := by omega
      rw [fillL_all HVL.out] at hGx
      have HR := Lib.hid hGx
      clear hGx
      go_wp2
      go_ret
      exact ⟨w.heap.size, rfl, Nat.le_refl _, by rw [HV.out]; exact HR.out, hbx⟩

theorem read_none (s : ByteArray) (w : World) (hs : s.size ≤ 536870912) (hL : Laid w) (h : Dc.readP s.data.toList = none) : Calls Tryd.prog 36 #[.string s] w fun x w' => (∃ g A n e, x = .returned (.tuple #[.agg #[.bool g, .slice A n n, .int .i64 e], .bool false])) ∧ Below w.heap.size w w' := by
  refine (read_any s w hs hL).mono ?_
  rintro x w' ⟨⟨g, A, n, e, rfl, _⟩, hb⟩
  exact ⟨⟨g, A, n, e, by rw [h]; rfl⟩, hb⟩
theorem read_some (s : ByteArray) (w : World) (hs : s.size ≤ 536870912) (hL : Laid w) (y : Dc.D) (h : Dc.readP s.data.toList = some y) : Calls Tryd.prog 36 #[.string s] w fun x w' => ∃ A, x = .returned (.tuple #[.agg #[.bool y.neg, .slice A y.c.length y.c.length, .int .i64 y.e], .bool true]) ∧ Reads w' w'.heap.size A y.c.length (u8s y.c) ∧ Below w.heap.size w w' := by
  refine (read_any s w hs hL).mono ?_
  rintro x w' ⟨⟨g, A, n, e, rfl, hy⟩, hb⟩
  obtain ⟨rfl, rfl, rfl, hr⟩ := hy y h
  exact ⟨A, by rw [h]; rfl, hr, hb⟩

set_option maxHeartbeats 1000000 in
set_option maxRecDepth 100000 in
theorem valid_any (s : ByteArray) (w : World) (hs : s.size ≤ 536870912) (hL : Laid w) : Calls Tryd.prog 27 #[.string s] w fun x w' => x = .returned (.bool (Dc.readP s.data.toList).isSome) ∧ Below w.heap.size w w' := by
  have key : Calls Tryd.prog 36 #[.string s] w fun x w' => (∃ g A n e, x = .returned (.tuple #[.agg #[.bool g, .slice A n n, .int .i64 e], .bool (Dc.readP s.data.toList).isSome])) ∧ Below w.heap.size w w' := by
    refine (read_any s w hs hL).mono ?_
    rintro x w' ⟨⟨g, A, n, e, rfl, _⟩, hb⟩
    exact ⟨⟨g, A, n, e, rfl⟩, hb⟩
  obtain ⟨b, hb⟩ : ∃ b, (Dc.readP s.data.toList).isSome = b := ⟨_, rfl⟩
  rw [hb] at key ⊢
  have RD := Lib.hid key
  clear key hb
  go_enter Tryd.func27, Tryd.ntmps27
  go_wp2_with fail
  refine (RD.out).mono ?_
  rintro x w7 ⟨⟨g, A, n, e, rfl⟩, hb7⟩
  go_wp2_with fail
  go_ret
  exact ⟨rfl, hb7.alloc hb7.size _⟩

/-- What Parts answers. -/
def partsV (r : Option Dc.D) : Value := match r with
  | none => .tuple #[.string ⟨#[]⟩, .int .i64 0, .int .i64 3]
  | some y => .tuple #[.string ⟨(Dc.coefB y).toArray⟩, .int .i64 y.e, .int .i64 0]
set_option maxHeartbeats 1000000 in
set_option maxRecDepth 100000 in
theorem parts_any (s : ByteArray) (w : World) (hs : s.size ≤ 536870912) (hL : Laid w) : Calls Tryd.prog 26 #[.string s] w fun x w' => x = .returned (partsV (Dc.readP s.data.toList)) ∧ Below w.heap.size w w' := by
  cases hr : Dc.readP s.data.toList with
  | none =>
    have RD := Lib.hid (read_none s w hs hL hr)
    clear hr
    go_enter Tryd.func26, Tryd.ntmps26
    go_wp2_with fail
    refine (RD.out).mono ?_
    rintro x w7 ⟨⟨g, A, n, e, rfl⟩, hb7⟩
    go_wp2_with fail
    refine bodyPost_ret (v := .tuple #[.string ⟨#[]⟩, .int .i64 0, .int .i64 3]) (by simp [results, Tryd.results26, go_sem]) rfl ?_
    exact ⟨rfl, hb7.alloc hb7.size _⟩
  | some y =>
    have RD := Lib.hid (read_some s w hs hL y hr)
    have hcn := (Dc.readP_some hr).1
    have hl4 := (Dc.limit_ok.1 hcn.2).1
    obtain ⟨g, hg⟩ : ∃ z, y.neg = z := ⟨_, rfl⟩
    obtain ⟨l, hl⟩ : ∃ z, y.c = z := ⟨_, rfl⟩
    obtain ⟨e, he⟩ : ∃ z, y.e = z := ⟨_, rfl⟩
    have hd : Dc.Digs l := hl ▸ hcn.1.1
    have hyy : y = ⟨g, l, e⟩ := by rw [← hg, ← hl, ← he]
    rw [hg, hl, he] at RD
    rw [hl] at hl4
    obtain ⟨n, hn⟩ : ∃ n, l.length = n := ⟨_, rfl⟩
    rw [hn] at RD hl4
    have CO := Lib.hid (fun A W hW => coef_any g A n l e W hW hd (by omega))
    obtain ⟨C, hC⟩ : ∃ C : ByteArray, ⟨(Dc.coefB ⟨g, l, e⟩).toArray⟩ = C := ⟨_, rfl⟩
    rw [hC] at CO
    have hpv : partsV (some y) = .tuple #[.string C, .int .i64 e, .int .i64 0] := by rw [partsV, hyy, hC]
    rw [hpv]
    clear hr hcn hg hl he hd hyy hC hpv hn
    go_enter Tryd.func26, Tryd.ntmps26
    go_wp2_with fail
    refine (RD.out).mono ?_
    rintro x w7 ⟨A, rfl, hr7, hb7⟩
    obtain ⟨w2, X, hw2, hX, hb2, hX2, hcells⟩ := box_num g A n n e w7
    have hr2 := hr7.on hb2
    have HC := Lib.hid hcells
    have HW2 := Lib.hid hw2
    have HXX := Lib.hid hX
    have HR2 := Lib.hid hr2
    have hd2 : Below w2.heap.size w2 w2 := Below.refl _ _
    obtain ⟨q0, q1, q2, _⟩ := hcells w2 hd2
    clear hcells hw2 hX hr7 hr2
    go_upto_region 4 with fail
    rw [HW2.out, HXX.out]
    go_region_held3 (fun W => W.cell? ⟨X, 0, none⟩ = some (.bool g) ∧ W.cell? ⟨X, 1, none⟩ = some (.slice A n n) ∧ W.cell? ⟨X, 2, none⟩ = some (.int .i64 e) ∧ Below w2.heap.size w2 W)
      ((refine HC.out _ ?_; first | assumption | exact (Below.refl _ _).drew))
      (first | (go_at_call 54; refine (CO.out _ _ (HR2.out.on (n3 (by assumption)))).mono ?_; rintro x w8 ⟨rfl, hb8⟩; have hb8' := n3_trans (by assumption) hb8))
    all_goals
      go_wp2_with fail
      refine bodyPost_ret (v := .tuple #[.string C, .int .i64 e, .int .i64 0]) (by simp [results, Tryd.results26, go_sem]) rfl ?_
      exact ⟨rfl, hb7.trans ((hb2.trans (hb8'.mono hb2.size)).mono hb7.size)⟩
end Go.Proofs.YtmgafnflkfbckaaDoor
