/- What the listed variables hold; the contracts of Itoa and Atoi in the words used here; coef, text, result. -/
import Derived.Test.YtmgafnflkfbckaaGreatDoorWalkB
import Derived.Lib.AppendIntMem
namespace Go.Proofs.YtmgafnflkfbckaaGreatDoor
open Go.RowKit Go.Lib

/-- The variables that the library reads. -/
def Laid (w : World) : Prop := Lib.TabIs Tryz.prog w "internal/strconv.uint64pow10" .u64 Lib.pow10Tab ∧ 4 ≤ w.heap.size ∧
  (∃ ev, w.cell? ⟨1, 0, none⟩ = some ev ∧ (ev = .nilIface ∨ ∃ te pe, ev = .iface te pe)) ∧ (∃ ev, w.cell? ⟨2, 0, none⟩ = some ev ∧ (ev = .nilIface ∨ ∃ te pe, ev = .iface te pe))
theorem pow10_at : Tryz.prog.globalNamed "internal/strconv.uint64pow10" = some 3 := by kernel_rfl
theorem Laid.on {w w' : World} (h : Laid w) (hb : Below w.heap.size w w') : Laid w' := by
  obtain ⟨h1, h2, ⟨e1, h3, h4⟩, ⟨e2, h5, h6⟩⟩ := h
  have hs := hb.size
  exact ⟨var?_below hb pow10_at (by omega) h1, by omega, ⟨e1, (hb.cell (by show 1 < _; omega)).trans h3, h4⟩, ⟨e2, (hb.cell (by show 2 < _; omega)).trans h5, h6⟩⟩

theorem itoa_any (n : Int) (h0 : -4611686018427387904 ≤ n) (h1 : n ≤ 4611686018427387904) (w : World) (hL : Laid w) : Calls Tryz.prog 35 #[.int .i64 n] w fun x w' => x = .returned (.string ⟨(Lib.itoa n).toArray⟩) ∧ Below w.heap.size w w' := by
  refine (Tryz.strconv_Itoa n (by omega) (by omega) w hL.1).mono ?_
  rintro e w' ⟨rfl, k, os, rfl⟩
  exact ⟨rfl, below_grow _ w (Nat.le_refl _) k os⟩
theorem bytesWorld_below (w : World) (e : TypeId) (s : ByteArray) : Below w.heap.size w (bytesWorld w e s) :=
  ⟨rfl, rfl, rfl, by rw [bytesWorld_size]; omega, fun j hj => bytesWorld_at_old w e s j hj⟩
theorem atoi_ok (s : ByteArray) (hs : s.size ≤ 1073741824) (v : Int) (h : Lib.atoiAll s.data.toList = .ok v) (w : World) : Calls Tryz.prog 43 #[.string s] w fun x w' => x = .returned (.tuple #[.int .i64 v, .nilIface]) ∧ Below w.heap.size w w' := by
  refine (Tryz.strconv_Atoi_ok s (by omega) v h w).mono ?_
  rintro e w' ⟨rfl, h⟩
  refine ⟨rfl, ?_⟩
  rcases h with rfl | ⟨t, rfl⟩
  · exact Below.refl _ _
  · exact bytesWorld_below w 5 t
theorem atoi_bad (s : ByteArray) (hs : s.size ≤ 1073741824) (h : ∀ v, Lib.atoiAll s.data.toList ≠ .ok v) (w : World) (hL : Laid w) : Calls Tryz.prog 43 #[.string s] w fun x w' => ∃ (v : Int) (N : Nat), x = .returned (.tuple #[.int .i64 v, .iface 102 (.pointer (some ⟨N, 0, none⟩))]) ∧ Below w.heap.size w w' := by
  obtain ⟨_, _, ⟨e1, h3, h4⟩, ⟨e2, h5, h6⟩⟩ := hL
  cases ha : Lib.atoiAll s.data.toList with
  | ok v => exact absurd ha (h v)
  | range =>
    refine (Tryz.strconv_Atoi_range s (by omega) ha e2 w h5 h6).mono ?_
    rintro e w' ⟨N, rfl, _, _, hb⟩
    exact ⟨_, N, rfl, hb⟩
  | _ =>
    refine (Tryz.strconv_Atoi_bad s (by omega) (fun v hv => by rw [ha] at hv; cases hv) (fun hv => by rw [ha] at hv; cases hv) e1 w h3 h4).mono ?_
    rintro e w' ⟨N, rfl, _, _, hb⟩
    exact ⟨_, N, rfl, hb⟩

/-- A number, boxed. -/
theorem box_num (g : Bool) (A : Option Addr) (n c : Nat) (e : Int) (w : World) : ∃ (w2 : World) (X : Nat), w.alloc (.cells #[.bool g, .slice A n c, .int .i64 e] 46) = w2 ∧ w.heap.size = X ∧ Below w.heap.size w w2 ∧ X < w2.heap.size ∧
    ∀ W, Below w2.heap.size w2 W → W.cell? ⟨X, 0, none⟩ = some (.bool g) ∧ W.cell? ⟨X, 1, none⟩ = some (.slice A n c) ∧ W.cell? ⟨X, 2, none⟩ = some (.int .i64 e) ∧ Below w2.heap.size w2 W := by
  refine ⟨_, _, rfl, rfl, (Below.refl _ _).alloc (Nat.le_refl _) _, by simp, fun W hW => ?_⟩
  have h1 := (hW.block w.heap.size (by simp)).trans (heap_alloc_new w _)
  exact ⟨at_block h1 0 _ rfl, at_block h1 1 _ rfl, at_block h1 2 _ rfl, hW⟩
theorem n3 {A B C : Prop} {a W : World} (h : A ∧ B ∧ C ∧ Below a.heap.size a W) : Below a.heap.size a W := h.2.2.2
theorem n3_trans {A B C : Prop} {a W W' : World} (h : A ∧ B ∧ C ∧ Below a.heap.size a W) (hb : Below W.heap.size W W') : Below a.heap.size a W' := h.2.2.2.trans (hb.mono h.2.2.2.size)
theorem str_append (a b : List UInt8) : (⟨a.toArray⟩ ++ ⟨b.toArray⟩ : ByteArray) = ⟨(a ++ b).toArray⟩ := by
  apply ByteArray.ext
  simp
theorem str_size (a : List UInt8) : (⟨a.toArray⟩ : ByteArray).size = a.length := by show a.toArray.size = _; simp
theorem sgn_len (b : Bool) : (Dc.sgnB b).length ≤ 1 := by cases b <;> decide

set_option maxHeartbeats 1000000 in
set_option maxRecDepth 100000 in
theorem coef_any (g : Bool) (A : Option Addr) (n : Nat) (l : List Nat) (e : Int) (w : World) (hr : Reads w w.heap.size A n (u8s l)) (hd : Dc.Digs l) (hn : n ≤ 1073741000) :
    Calls Tryz.prog 53 #[.agg #[.bool g, .slice A n n, .int .i64 e]] w fun x w' => x = .returned (.string ⟨(Dc.coefB ⟨g, l, e⟩).toArray⟩) ∧ Below w.heap.size w w' := by
  have hln : l.length = n := by have := hr.1; rwa [u8s_len] at this
  by_cases h0 : n = 0
  · obtain rfl : l = [] := List.length_eq_zero_iff.1 (by omega)
    subst h0
    go_enter Tryz.func53, Tryz.ntmps53
    go_wp2
    go_ret
    exact ⟨rfl, (Below.refl _ _).alloc (Nat.le_refl _) _⟩
  · obtain ⟨S, hS⟩ : ∃ S : ByteArray, ⟨(Dc.sgnB g).toArray⟩ = S := ⟨_, rfl⟩
    obtain ⟨T, hT⟩ : ∃ T : ByteArray, ⟨(Dc.digB l).toArray⟩ = T := ⟨_, rfl⟩
    have hco : (⟨(Dc.coefB ⟨g, l, e⟩).toArray⟩ : ByteArray) = S ++ T := by
      have hne : l ≠ [] := by intro h; subst h; simp at hln; omega
      rw [← hS, ← hT, str_append, Dc.coefB, if_neg hne]
    have hSs : S.size ≤ 1 := by rw [← hS, str_size]; exact sgn_len g
    have hTs : T.size = n := by rw [← hT, str_size, Dc.digB_len, hln]
    rw [hco]
    have SG := Lib.hid (fun W => sign_any g A n n e W)
    have DG := Lib.hid (fun W hW => digits_any g A n l e W hW hd (by omega))
    rw [hS] at SG
    rw [hT] at DG
    have hsum : S.size + T.size ≤ 1073741824 := by omega
    have hadd := fun W => run_string_add_sum (P := Tryz.prog) (w := W) S T (by omega)
    have h0f : ((n : Int) == 0) = false := by simp; omega
    obtain ⟨w2, X, hw2, hX, hb2, hX2, hcells⟩ := box_num g A n n e w
    have hr2 := hr.on hb2
    have HC := Lib.hid hcells
    have HW2 := Lib.hid hw2
    have HXX := Lib.hid hX
    have HR2 := Lib.hid hr2
    have hd2 : Below w2.heap.size w2 w2 := Below.refl _ _
    obtain ⟨q0, q1, q2, _⟩ := hcells w2 hd2
    clear hS hT hco hcells hw2 hX hr hr2 hd hln
    go_enter Tryz.func53, Tryz.ntmps53
    go_wp2_with fail
    rw [HW2.out, HXX.out]
    go_region_held3 (fun W => W.cell? ⟨X, 0, none⟩ = some (.bool g) ∧ W.cell? ⟨X, 1, none⟩ = some (.slice A n n) ∧ W.cell? ⟨X, 2, none⟩ = some (.int .i64 e) ∧ Below w2.heap.size w2 W)
      ((refine HC.out _ ?_; first | assumption | exact (Below.refl _ _).drew))
      (first | (go_at_call 33; refine (SG.out _).mono ?_; rintro x w7 ⟨rfl, hb7⟩; have hb7' := n3_trans (by assumption) hb7) | (go_at_call 32; refine (DG.out _ (HR2.out.on (n3 (by assumption)))).mono ?_; rintro x w7 ⟨rfl, hb7⟩; have hb7' := n3_trans (by assumption) hb7))
    all_goals
      go_wp2_with fail
      go_ret
      exact ⟨rfl, hb2.trans (hb7'.mono hb2.size)⟩
end Go.Proofs.YtmgafnflkfbckaaGreatDoor
