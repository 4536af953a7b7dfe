/- The reference: Coef, Show. -/
import Derived.Test.YtmgafnflkfbckaaDoorWalkT
namespace Go.Proofs.YtmgafnflkfbckaaDoor
open Go.RowKit Go.Lib

/-- A number of the reference, boxed. -/
theorem box_ref (g : Bool) (A : Option Addr) (n c : Nat) (e : Int) (w : World) : ∃ (w2 : World) (X : Nat), w.alloc (.cells #[.bool g, .slice A n c, .int .i64 e] 25) = w2 ∧ w.heap.size = X ∧ Below w.heap.size w w2 ∧ X < w2.heap.size ∧
    ∀ W, Below w2.heap.size w2 W → W.cell? ⟨X, 0, none⟩ = some (.bool g) ∧ W.cell? ⟨X, 1, none⟩ = some (.slice A n c) ∧ W.cell? ⟨X, 2, none⟩ = some (.int .i64 e) ∧ Below w2.heap.size w2 W := by
  refine ⟨_, _, rfl, rfl, (Below.refl _ _).alloc (Nat.le_refl _) _, by simp, fun W hW => ?_⟩
  have h1 := (hW.block w.heap.size (by simp)).trans (heap_alloc_new w _)
  exact ⟨at_block h1 0 _ rfl, at_block h1 1 _ rfl, at_block h1 2 _ rfl, hW⟩
set_option maxHeartbeats 1000000 in
set_option maxRecDepth 100000 in
theorem refcoef_any (g : Bool) (A : Option Addr) (n c : Nat) (l : List Nat) (e : Int) (w : World) (hr : Reads w w.heap.size A n (i64s l)) (hd : Dc.Digs l) (hn : n ≤ 1048576) :
    Calls Tryd.prog 28 #[.agg #[.bool g, .slice A n c, .int .i64 e]] w fun x w' => x = .returned (.string ⟨(Dc.coefB ⟨g, l, e⟩).toArray⟩) ∧ Below w.heap.size w w' := by
  have hln : l.length = n := by have := hr.1; rwa [i64s_len] at this
  by_cases h0 : n = 0
  · obtain rfl : l = [] := List.length_eq_zero_iff.1 (by omega)
    subst h0
    go_enter Tryd.func28, Tryd.ntmps28
    go_wp2
    go_ret
    exact ⟨rfl, (Below.refl _ _).alloc (Nat.le_refl _) _⟩
  · obtain ⟨S, hS⟩ : ∃ S : ByteArray, ⟨(Dc.sgnB g).toArray⟩ = S := ⟨_, rfl⟩
    obtain ⟨T, hT⟩ : ∃ T : ByteArray, ⟨(Dc.digB l).toArray⟩ = T := ⟨_, rfl⟩
    have hco : (⟨(Dc.coefB ⟨g, l, e⟩).toArray⟩ : ByteArray) = S ++ T := by
      have hne : l ≠ [] := by intro h; subst h; simp at hln; omega
      rw [← hS, ← hT, str_append, Dc.coefB, if_neg hne]
    have hSs : S.size ≤ 1 := by rw [← hS, str_size]; exact sgn_len g
    have hTs : T.size = n := by rw [← hT, str_size, Dc.digB_len, hln]
    rw [hco]
    have SG := Lib.hid (fun W => refsign_any g A n c e W)
    have DG := Lib.hid (fun W hW => word_any A n c l W hW hd hn)
    rw [hS] at SG
    rw [hT] at DG
    have hsum : S.size + T.size ≤ 1073741824 := by omega
    have hadd := fun W => run_string_add_sum (P := Tryd.prog) (w := W) S T (by omega)
    have h0f : ((n : Int) == 0) = false := by simp; omega
    obtain ⟨w2, X, hw2, hX, hb2, hX2, hcells⟩ := box_ref g A n c e w
    have hr2 := hr.on hb2
    have HC := Lib.hid hcells
    have HW2 := Lib.hid hw2
    have HXX := Lib.hid hX
    have HR2 := Lib.hid hr2
    have hd2 : Below w2.heap.size w2 w2 := Below.refl _ _
    obtain ⟨q0, q1, q2, _⟩ := hcells w2 hd2
    clear hS hT hco hcells hw2 hX hr hr2 hd hln
    go_enter Tryd.func28, Tryd.ntmps28
    go_wp2_with fail
    rw [HW2.out, HXX.out]
    go_region_held3 (fun W => W.cell? ⟨X, 0, none⟩ = some (.bool g) ∧ W.cell? ⟨X, 1, none⟩ = some (.slice A n c) ∧ W.cell? ⟨X, 2, none⟩ = some (.int .i64 e) ∧ Below w2.heap.size w2 W)
      ((refine HC.out _ ?_; first | assumption | exact (Below.refl _ _).drew))
      (first | (go_at_call 44; refine (SG.out _).mono ?_; rintro x w7 ⟨rfl, hb7⟩; have hb7' := n3_trans (by assumption) hb7) | (go_at_call 43; refine (DG.out _ (HR2.out.on (n3 (by assumption)))).mono ?_; rintro x w7 ⟨rfl, hb7⟩; have hb7' := n3_trans (by assumption) hb7))
    all_goals
      go_wp2_with fail
      go_ret
      exact ⟨rfl, hb2.trans (hb7'.mono hb2.size)⟩
set_option maxHeartbeats 1000000 in
set_option maxRecDepth 100000 in
theorem show_any (g : Bool) (A : Option Addr) (n c : Nat) (l : List Nat) (e : Int) (w : World) (hr : Reads w w.heap.size A n (i64s l)) (hd : Dc.Digs l) (hn : n ≤ 1048576) (he : -1000000 ≤ e ∧ e ≤ 1000000) :
    Calls Tryd.prog 19 #[.agg #[.bool g, .slice A n c, .int .i64 e]] w fun x w' => x = .returned (.string ⟨(Dc.showB ⟨g, l, e⟩).toArray⟩) ∧ Below w.heap.size w w' := by
  have hln : l.length = n := by have := hr.1; rwa [i64s_len] at this
  obtain ⟨C, hC⟩ : ∃ S : ByteArray, ⟨(Dc.coefB ⟨g, l, e⟩).toArray⟩ = S := ⟨_, rfl⟩
  obtain ⟨T, hT⟩ : ∃ T : ByteArray, ⟨(Lib.itoa e).toArray⟩ = T := ⟨_, rfl⟩
  have hsh : (⟨(Dc.showB ⟨g, l, e⟩).toArray⟩ : ByteArray) = C ++ ⟨#[101]⟩ ++ T := by
    rw [← hC, ← hT, show (⟨#[101]⟩ : ByteArray) = ⟨([101] : List UInt8).toArray⟩ from rfl, str_append, str_append, Dc.showB]
    simp
  have hCs : C.size ≤ n + 1 := by rw [← hC, str_size]; have := coef_len ⟨g, l, e⟩; rw [← hln]; exact this
  have hTs : T.size ≤ 20 := by rw [← hT, str_size]; exact itoa_len e (by omega) (by omega)
  rw [hsh]
  have CO := Lib.hid (fun W hW => refcoef_any g A n c l e W hW hd hn)
  have IT := Lib.hid (fun W => number_any e W (by omega) (by omega))
  rw [hC] at CO
  rw [hT] at IT
  have hadd := fun W => run_string_add_sum (P := Tryd.prog) (w := W) C ⟨#[101]⟩ (by rw [show (ByteArray.mk #[101]).size = 1 from rfl]; omega)
  have hadd2 := fun W => run_string_add_sum (P := Tryd.prog) (w := W) (C ++ ⟨#[101]⟩) T (by rw [ByteArray.size_append, show (ByteArray.mk #[101]).size = 1 from rfl]; omega)
  obtain ⟨w2, X, hw2, hX, hb2, hX2, hcells⟩ := box_ref g A n c e w
  have hr2 := hr.on hb2
  have HC := Lib.hid hcells
  have HW2 := Lib.hid hw2
  have HXX := Lib.hid hX
  have HR2 := Lib.hid hr2
  have hd2 : Below w2.heap.size w2 w2 := Below.refl _ _
  clear hC hT hsh hcells hw2 hX hr hr2 hd hln
  go_enter Tryd.func19, Tryd.ntmps19
  go_wp2_with fail
  rw [HW2.out, HXX.out]
  go_region_held3 (fun W => W.cell? ⟨X, 0, none⟩ = some (.bool g) ∧ W.cell? ⟨X, 1, none⟩ = some (.slice A n c) ∧ W.cell? ⟨X, 2, none⟩ = some (.int .i64 e) ∧ Below w2.heap.size w2 W)
    ((refine HC.out _ ?_; first | assumption | exact (Below.refl _ _).drew))
    (first | (go_at_call 28; refine (CO.out _ (HR2.out.on (n3 (by assumption)))).mono ?_; rintro x w7 ⟨rfl, hb7⟩; have hb7' := n3_trans (by assumption) hb7) | (go_at_call 46; refine (IT.out _).mono ?_; rintro x w7 ⟨rfl, hb7⟩; have hb7' := n3_trans (by assumption) hb7))
  all_goals
    go_wp2_with fail
    go_ret
    exact ⟨rfl, hb2.trans (hb7'.mono hb2.size)⟩

end Go.Proofs.YtmgafnflkfbckaaDoor
