/- The reference: the text of a float. -/
import Derived.Test.YtjapgpmoojfhnaaGreatDoorWalkN
import Derived.Deep.RegionHeld3
namespace Go.Proofs.YtjapgpmoojfhnaaGreatDoor
open Go.RowKit Go.Lib

def sgnS (neg : Bool) : List UInt8 := if neg = true then [45] else []
theorem f4 {A B C D : Prop} {a W : World} (h : A ∧ B ∧ C ∧ D ∧ Below a.heap.size a W) : Below a.heap.size a W := h.2.2.2.2
theorem f4_trans {A B C D : Prop} {a W W' : World} (h : A ∧ B ∧ C ∧ D ∧ Below a.heap.size a W) (hb : Below W.heap.size W W') : Below a.heap.size a W' := h.2.2.2.2.trans (hb.mono h.2.2.2.2.size)
theorem b_drew {a W : World} (h : Below a.heap.size a W) : Below a.heap.size a W.drew := h.drew
theorem lit_112 : (⟨#[112]⟩ : ByteArray) = ⟨([112] : List UInt8).toArray⟩ := rfl
theorem lit_45 : (⟨#[45]⟩ : ByteArray) = ⟨([45] : List UInt8).toArray⟩ := rfl
/-- A float of the reference, boxed. -/
theorem box_float (k : Int) (neg : Bool) (m : Int) (e : Int) (w : World) : ∃ (w2 : World) (X : Nat), w.alloc (.cells #[.int .i64 k, .bool neg, .int .u64 m, .int .i64 e] 24) = w2 ∧ w.heap.size = X ∧ Below w.heap.size w w2 ∧
    ∀ W, Below w2.heap.size w2 W → W.cell? ⟨X, 0, none⟩ = some (.int .i64 k) ∧ W.cell? ⟨X, 1, none⟩ = some (.bool neg) ∧ W.cell? ⟨X, 2, none⟩ = some (.int .u64 m) ∧ W.cell? ⟨X, 3, none⟩ = some (.int .i64 e) ∧ Below w2.heap.size w2 W := by
  refine ⟨_, _, rfl, rfl, (Below.refl _ _).alloc (Nat.le_refl _) _, fun W hW => ?_⟩
  have h1 := (hW.block w.heap.size (by simp)).trans (heap_alloc_new w _)
  exact ⟨at_block h1 0 _ rfl, at_block h1 1 _ rfl, at_block h1 2 _ rfl, at_block h1 3 _ rfl, hW⟩
set_option maxHeartbeats 2000000 in
set_option maxRecDepth 100000 in
theorem floattext_num (neg : Bool) (m : Nat) (e : Int) (w : World) (hm : m < 18446744073709551616) (he : -2000 ≤ e ∧ e ≤ 2000) :
    Calls Tryz.prog 15 #[.agg #[.int .i64 0, .bool neg, .int .u64 (m : Int), .int .i64 e]] w fun x w' => x = .returned (.string ⟨(sgnS neg ++ (decDigits m ++ 112 :: itoa e)).toArray⟩) ∧ Below w.heap.size w w' := by
  obtain ⟨w2, X, hw2, hX, hb2, hcells⟩ := box_float 0 neg m e w
  have OT := Lib.hid (fun W => ofText m hm W)
  have SM := Lib.hid (fun W => small_any e W (by omega))
  obtain ⟨D, hD⟩ : ∃ D : ByteArray, ⟨(decDigits m).toArray⟩ = D := ⟨_, rfl⟩
  obtain ⟨I, hI⟩ : ∃ I : ByteArray, ⟨(itoa e).toArray⟩ = I := ⟨_, rfl⟩
  rw [hD] at OT
  rw [hI] at SM
  have hDs : D.size ≤ 20 := by
    rw [← hD]
    show (decDigits m).length ≤ 20
    by_cases h0 : m = 0
    · subst h0; rw [decDigits_one (by omega)]; simp
    · rw [Lib.decDigits_length]
      have := Lib.numDigits_eq m (by omega) hm
      split at this <;> omega
  have hIs : I.size ≤ 5 := by rw [← hI]; exact Dc.itoa_len (by omega) (by omega)
  have hadd1 := fun W => run_string_add_sum (P := Tryz.prog) (w := W) D ⟨#[112]⟩ (by show D.size + 1 ≤ _; omega)
  have hadd2 := fun W => run_string_add_sum (P := Tryz.prog) (w := W) (D ++ ⟨#[112]⟩) I (by rw [ByteArray.size_append]; show D.size + 1 + I.size ≤ _; omega)
  have hadd3 := fun W => run_string_add_sum (P := Tryz.prog) (w := W) ⟨#[45]⟩ (D ++ ⟨#[112]⟩ ++ I) (by rw [ByteArray.size_append, ByteArray.size_append]; show 1 + (D.size + 1 + I.size) ≤ _; omega)
  have HDI := Lib.hid (And.intro hD hI)
  have HC := Lib.hid hcells
  have HW2 := Lib.hid hw2
  have HX := Lib.hid hX
  have hd2 : Below w2.heap.size w2 w2 := Below.refl _ _
  obtain ⟨x0, x1, x2, x3, _⟩ := hcells w2 hd2
  clear hcells hw2 hX hD hI hDs hIs hm he
  go_enter Tryz.func15, Tryz.ntmps15
  go_upto_region 1 with fail
  rw [HW2.out, HX.out]
  go_upto_region 5 with fail
  go_region_held3 (fun W => W.cell? ⟨X, 0, none⟩ = some (.int .i64 0) ∧ W.cell? ⟨X, 1, none⟩ = some (.bool neg) ∧ W.cell? ⟨X, 2, none⟩ = some (.int .u64 (m : Int)) ∧ W.cell? ⟨X, 3, none⟩ = some (.int .i64 e) ∧ Below w2.heap.size w2 W)
    ((refine HC.out _ ?_; first | assumption | exact b_drew hd2 | exact b_drew (by assumption)))
    (first | (go_at_call 50; refine (OT.out _).mono ?_; rintro x w3 ⟨A, n, c, rfl, hb3, k1, _, _⟩; have hb3' := f4_trans (by assumption) hb3) | (go_at_call 19; refine (k1 _ (by first | exact Below.refl _ _ | exact (Below.refl _ _).drew)).mono ?_; rintro x w4 ⟨rfl, hb4⟩; have hb4' := f4_trans (by assumption) hb4) | (go_at_call 51; refine (SM.out _).mono ?_; rintro x w5 ⟨rfl, hb5⟩; have hb5' := f4_trans (by assumption) hb5))
  clear x0 x1 x2 x3
  obtain ⟨x0, x1, x2, x3, _⟩ := HC.out w5 hb5'
  have hbz : Below w.heap.size w w5 := hb2.trans (hb5'.mono hb2.size)
  clear k1 hb3 hb3' hb4 hb4' hb5
  cases neg with
  | true =>
    go_wp2_with fail
    go_ret
    refine ⟨?_, hbz⟩
    rw [lit_112, lit_45, ← HDI.out.1, ← HDI.out.2, str_append, str_append, str_append]
    simp [sgnS]
  | false =>
    go_wp2_with fail
    go_ret
    refine ⟨?_, hbz⟩
    rw [lit_112, ← HDI.out.1, ← HDI.out.2, str_append, str_append]
    simp [sgnS]
set_option maxHeartbeats 1000000 in
set_option maxRecDepth 100000 in
theorem floattext_inf (neg : Bool) (m e : Int) (w : World) :
    Calls Tryz.prog 15 #[.agg #[.int .i64 1, .bool neg, .int .u64 m, .int .i64 e]] w fun x w' => x = .returned (.string ⟨(sgnS neg ++ [105, 110, 102]).toArray⟩) ∧ Below w.heap.size w w' := by
  obtain ⟨w2, X, hw2, hX, hb2, hcells⟩ := box_float 1 neg m e w
  have HW2 := Lib.hid hw2
  have HX := Lib.hid hX
  obtain ⟨x0, x1, x2, x3, _⟩ := hcells w2 (Below.refl _ _)
  clear hcells hw2 hX
  cases neg with
  | true =>
    go_enter Tryz.func15, Tryz.ntmps15
    go_upto_region 1 with fail
    rw [HW2.out, HX.out]
    go_wp2_with fail
    go_ret
    exact ⟨rfl, hb2⟩
  | false =>
    go_enter Tryz.func15, Tryz.ntmps15
    go_upto_region 1 with fail
    rw [HW2.out, HX.out]
    go_wp2_with fail
    go_ret
    exact ⟨rfl, hb2⟩
set_option maxHeartbeats 1000000 in
set_option maxRecDepth 100000 in
theorem floattext_nan (m e : Int) (w : World) :
    Calls Tryz.prog 15 #[.agg #[.int .i64 2, .bool false, .int .u64 m, .int .i64 e]] w fun x w' => x = .returned (.string ⟨#[110, 97, 110]⟩) ∧ Below w.heap.size w w' := by
  obtain ⟨w2, X, hw2, hX, hb2, hcells⟩ := box_float 2 false m e w
  have HW2 := Lib.hid hw2
  have HX := Lib.hid hX
  obtain ⟨x0, x1, x2, x3, _⟩ := hcells w2 (Below.refl _ _)
  clear hcells hw2 hX
  go_enter Tryz.func15, Tryz.ntmps15
  go_upto_region 1 with fail
  rw [HW2.out, HX.out]
  go_wp2_with fail
  go_ret
  exact ⟨rfl, hb2⟩
end Go.Proofs.YtjapgpmoojfhnaaGreatDoor
