/- The contract of aligned. -/
import Derived.Test.YtmgafnflkfbckaaGreatDoorWalkJ
namespace Go.Proofs.YtmgafnflkfbckaaGreatDoor
open Go.RowKit Go.Lib

namespace Dc
/-- The digits of a number for a smaller exponent and a length. -/
def al (c : List Nat) (k n : Nat) : List Nat := if c = [] then List.replicate n 0 else List.replicate (n - c.length - k) 0 ++ (c ++ List.replicate k 0)
theorem al_len {c : List Nat} {k n : Nat} (h : c = [] ∨ c.length + k ≤ n) : (al c k n).length = n := by
  rw [al]
  split
  · simp
  · rename_i hc
    rcases h with h | h
    · exact absurd h hc
    · simp; omega
theorem al_digs {c : List Nat} {k n : Nat} (h : Digs c) : Digs (al c k n) := by
  intro x hx
  rw [al] at hx
  split at hx
  · rw [List.mem_replicate] at hx; omega
  · simp only [List.mem_append, List.mem_replicate] at hx
    rcases hx with hx | hx | hx
    · omega
    · exact h x hx
    · omega
end Dc
theorem b4_trans {A B C : Prop} {G : Nat} {a W W' : World} (h : A ∧ B ∧ C ∧ Below G a W) (hb : Below G W W') : Below G a W' := h.2.2.2.trans hb

set_option maxHeartbeats 1000000 in
set_option maxRecDepth 100000 in
theorem aligned_any (g : Bool) (A : Option Addr) (m : Nat) (l : List Nat) (xe e : Int) (n k : Nat) (w : World) (hr : Reads w w.heap.size A m (u8s l)) (hk : l = [] ∨ (xe - e = (k : Int) ∧ m + k ≤ n)) (hn : n ≤ 1048576) (hxe : -1048576 ≤ xe ∧ xe ≤ 1048576) (he : -1048576 ≤ e ∧ e ≤ 1048576) :
    Calls Tryz.prog 40 #[.agg #[.bool g, .slice A m m, .int .i64 xe], .int .i64 e, .int .i64 (n : Int)] w fun x w' => ∃ G : Nat, x = .returned (.slice (some ⟨G, 0, none⟩) n n) ∧ w.heap.size ≤ G ∧ w'.heap[G]? = some (.cells (u8s (Dc.al l k n)).toArray 5 (0, 0)) ∧ Below w.heap.size w w' := by
  have hlm : l.length = m := by have := hr.1; rwa [u8s_len] at this
  have hmk := fun W => make_bytes n (by omega) W
  obtain ⟨w1, X, hw1, hX, hb1, hX1, hcells⟩ := box_num g A m m xe w
  obtain ⟨q0, q1, q2, _⟩ := hcells w1 (Below.refl _ _)
  have hr1 := hr.on hb1
  obtain ⟨Z, hZ⟩ : ∃ Z, u8s (List.replicate n 0) = Z := ⟨_, rfl⟩
  have hZl : Z.length = n := by rw [← hZ, u8s_len, List.length_replicate]
  rw [hZ] at hmk
  obtain ⟨w2, hw2⟩ : ∃ w2 : World, w1.alloc (.cells Z.toArray 5) = w2 := ⟨_, rfl⟩
  obtain ⟨G, hG⟩ : ∃ G, w1.heap.size = G := ⟨_, rfl⟩
  have hb12 : Below G w1 w2 := by rw [← hw2, ← hG]; exact (Below.refl _ _).alloc (Nat.le_refl _) _
  have hG2 : w2.heap[G]? = some (.cells Z.toArray 5 (0, 0)) := by rw [← hw2, ← hG]; exact heap_alloc_new w1 _
  have hXG : X < G := by rw [← hG]; exact hX1
  have hcc : ∀ W, Below G w2 W → W.cell? ⟨X, 0, none⟩ = some (.bool g) ∧ W.cell? ⟨X, 1, none⟩ = some (.slice A m m) ∧ W.cell? ⟨X, 2, none⟩ = some (.int .i64 xe) ∧ Below G w2 W := by
    intro W hW
    obtain ⟨a, b, c, _⟩ := hcells W (by rw [hG]; exact hb12.trans hW)
    exact ⟨a, b, c, hW⟩
  have hwG : w.heap.size ≤ G := by rw [← hG]; exact hb1.size
  have HW1 := Lib.hid hw1
  have HXX := Lib.hid hX
  have HW2 := Lib.hid hw2
  have HGG := Lib.hid hG
  have HC := Lib.hid hcc
  have HG2 := Lib.hid hG2
  have HZL := Lib.hid hZl
  have HZZ := Lib.hid hZ
  have HLM := Lib.hid hlm
  have HR1 := Lib.hid hr1
  by_cases h0 : m = 0
  · have hln : l = [] := List.length_eq_zero_iff.1 (by omega)
    subst h0
    have hal : Dc.al l k n = List.replicate n 0 := by rw [Dc.al, if_pos hln]
    have HAL := Lib.hid hal
    obtain ⟨p0, p1, p2, _⟩ := HC.out w2 (Below.refl _ _)
    clear hw1 hX hw2 hG hcc hcells hG2 hZl hZ hlm hr hr1 hk hal hln q0 q1 q2
    go_enter Tryz.func40, Tryz.ntmps40
    go_upto_region 1 with fail
    rw [HW1.out, HXX.out]
    go_upto_region 2 with fail
    rw [HW2.out, HGG.out]
    go_wp2_with fail
    go_ret
    exact ⟨G, rfl, hwG, by rw [HAL.out, HZZ.out]; exact HG2.out, (hb1.trans (hb12.mono hwG))⟩
  · have hlne : l ≠ [] := by intro h; rw [h] at hlm; simp at hlm; omega
    obtain ⟨hk1, hk2⟩ : xe - e = (k : Int) ∧ m + k ≤ n := by
      rcases hk with h | h
      · exact absurd h hlne
      · exact h
    obtain ⟨off, hoff⟩ : ∃ off, n - m - k = off := ⟨_, rfl⟩
    have h0i : (0 : Int) < (m : Int) := by omega
    have hv1 : IntKind.i64.wrap ((n : Int) - (m : Int)) = (n : Int) - (m : Int) := IntWalk.i64_in _ (by omega)
    have hv2 : IntKind.i64.wrap (xe - e) = (k : Int) := by rw [hk1]; exact IntWalk.i64_in _ (by omega)
    have hv3 : IntKind.i64.wrap ((n : Int) - (m : Int) - (k : Int)) = (off : Int) := by rw [show (n : Int) - (m : Int) - (k : Int) = (off : Int) by omega]; exact IntWalk.i64_in _ (by omega)
    have ho0 : (0 : Int) ≤ (off : Int) := by omega
    have ho1 : (off : Int) ≤ (n : Int) := by omega
    have honn : off + m ≤ n := by omega
    have hal : splice Z off (u8s l) = u8s (Dc.al l k n) := by
      rw [splice, ← hZ, u8s_len, hlm, Dc.al, if_neg hlne, hlm, hoff]
      simp only [u8s, List.map_append, ← List.map_take, ← List.map_drop, List.take_replicate, List.drop_replicate]
      rw [show min off n = off by omega, show n - (off + m) = k by omega]
    obtain ⟨CS, hCS⟩ : ∃ CS, u8s l = CS := ⟨_, rfl⟩
    have hCSl : CS.length = m := by rw [← hCS, u8s_len, hlm]
    have hone : ∀ v ∈ CS, v.oneCell' = true := by rw [← hCS]; exact u8s_one _
    rw [hCS] at hal hr1
    have HAL := Lib.hid hal
    have HCL := Lib.hid hCSl
    have hsrc : ∀ W, Below G w2 W → ∃ ad, A = some ad ∧ ∀ j v, CS[j]? = some v → W.cell? (ad.add j) = some v := by
      intro W hW
      obtain ⟨ad, e1, e2, e3⟩ := hr1.src (by omega)
      exact ⟨ad, e1, fun j v hv => ((hb12.trans hW).cell (by rw [block_of_add, ← hG]; exact e2)).trans (e3 j v hv)⟩
    have HRS := Lib.hid hsrc
    clear hw1 hX hw2 hG hcc hcells hG2 hZl hZ hlm hr hr1 hk hal hCSl hCS q0 q1 q2 hlne hoff hk1 hk2 hsrc HR1
    obtain ⟨p0, p1, p2, hd2⟩ := HC.out w2 (Below.refl _ _)
    go_enter Tryz.func40, Tryz.ntmps40
    go_upto_region 1 with fail
    rw [HW1.out, HXX.out]
    go_upto_region 2 with fail
    rw [HW2.out, HGG.out]
    go_upto_region 3 with fail
    go_region_held3 (fun W => W.cell? ⟨X, 0, none⟩ = some (.bool g) ∧ W.cell? ⟨X, 1, none⟩ = some (.slice A m m) ∧ W.cell? ⟨X, 2, none⟩ = some (.int .i64 xe) ∧ Below G w2 W)
      ((refine HC.out _ ?_; first | assumption | exact (Below.refl _ _).drew))
      ((refine step_copy_splice rfl (.tmp 25) (.tmp 27) 44 44 rfl 5 Tryz.underlying44 size5 (if n = off then some ⟨G, 0, none⟩ else some ⟨G, off, none⟩) A (n - off) (n - off) m m rfl rfl G off Z 5 HG2.out CS (by rw [HCL.out]; exact (Nat.min_eq_left (by omega)).symm) (fun _ => ⟨if_neg (by omega), HRS.out _ (by first | exact Below.refl _ _ | exact (Below.refl _ _).drew)⟩) (by rw [HCL.out, HZL.out]; exact honn) hone G w2 (by first | exact Below.refl _ _ | exact (Below.refl _ _).drew) (Nat.le_refl _) ?_; intro w5 hX5 hb5))
    all_goals
      go_wp2_with fail
      go_ret
      have h5 := hX5.out
      rw [HAL.out] at h5
      exact ⟨G, rfl, hwG, h5, hb1.trans ((hb12.trans hb5).mono hwG)⟩
end Go.Proofs.YtmgafnflkfbckaaGreatDoor
