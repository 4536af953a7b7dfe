/- What the listed variables hold; the contracts of the library in the words used here. -/
import Derived.Test.YtjapgpmoojfhnaaGreatDoorTz
import Derived.Test.YtjapgpmoojfhnaaGreatDoorWalkB
import Derived.Test.YtjapgpmoojfhnaaGreatDoorApp
import Derived.Lib.AppendIntMem
namespace Go.Proofs.YtjapgpmoojfhnaaGreatDoor
open Go.RowKit Go.Lib

def formatsL : List Int := [16, 11, -24, 32, 24, -149, 64, 53, -1074]
/-- The variables that are read. -/
def Laid (w : World) : Prop := Lib.TabIs Tryz.prog w "internal/strconv.uint64pow10" .u64 Lib.pow10Tab ∧ 18 ≤ w.heap.size ∧
  (∃ ev, w.cell? ⟨4, 0, none⟩ = some ev ∧ (ev = .nilIface ∨ ∃ te pe, ev = .iface te pe)) ∧ (∃ ev, w.cell? ⟨5, 0, none⟩ = some ev ∧ (ev = .nilIface ∨ ∃ te pe, ev = .iface te pe)) ∧
  TabAt 2 Lib.deBruijn64tab w ∧ (∃ m, w.cell? ⟨3, 0, none⟩ = some (.int .i64 m)) ∧ (∀ j v, formatsL[j]? = some v → w.cell? ⟨1, j, none⟩ = some (.int .i64 v))
theorem pow10_at : Tryz.prog.globalNamed "internal/strconv.uint64pow10" = some 6 := by kernel_rfl
theorem Laid.on {w w' : World} (h : Laid w) (hb : Below w.heap.size w w') : Laid w' := by
  obtain ⟨h1, h2, ⟨e1, h3, h4⟩, ⟨e2, h5, h6⟩, h7, ⟨m, h8⟩, h9⟩ := h
  have hs := hb.size
  exact ⟨var?_below hb pow10_at (by omega) h1, by omega, ⟨e1, (hb.cell (by show 4 < _; omega)).trans h3, h4⟩, ⟨e2, (hb.cell (by show 5 < _; omega)).trans h5, h6⟩,
    fun j hj => (hb.cell (by show 2 < _; omega)).trans (h7 j hj), ⟨m, (hb.cell (by show 3 < _; omega)).trans h8⟩, fun j v hv => (hb.cell (by show 1 < _; omega)).trans (h9 j v hv)⟩

theorem itoa_any (n : Int) (h0 : -4611686018427387904 ≤ n) (h1 : n ≤ 4611686018427387904) (w : World) (hL : Laid w) : Calls Tryz.prog 101 #[.int .i64 n] w fun x w' => x = .returned (.string ⟨(Lib.itoa n).toArray⟩) ∧ Below w.heap.size w w' := by
  refine (Tryz.strconv_Itoa n (by omega) (by omega) w hL.1).mono ?_
  rintro e w' ⟨rfl, k, os, rfl⟩
  exact ⟨rfl, below_grow _ w (Nat.le_refl _) k os⟩
theorem bytesWorld_below (w : World) (e : TypeId) (s : ByteArray) : Below w.heap.size w (bytesWorld w e s) :=
  ⟨rfl, rfl, rfl, by rw [bytesWorld_size]; omega, fun j hj => bytesWorld_at_old w e s j hj⟩
theorem atoi_ok (s : ByteArray) (hs : s.size ≤ 1073741824) (v : Int) (h : Lib.atoiAll s.data.toList = .ok v) (w : World) : Calls Tryz.prog 105 #[.string s] w fun x w' => x = .returned (.tuple #[.int .i64 v, .nilIface]) ∧ Below w.heap.size w w' := by
  refine (Tryz.strconv_Atoi_ok s (by omega) v h w).mono ?_
  rintro e w' ⟨rfl, h⟩
  refine ⟨rfl, ?_⟩
  rcases h with rfl | ⟨t, rfl⟩
  · exact Below.refl _ _
  · exact bytesWorld_below w 5 t
theorem atoi_bad (s : ByteArray) (hs : s.size ≤ 1073741824) (h : ∀ v, Lib.atoiAll s.data.toList ≠ .ok v) (w : World) (hL : Laid w) : Calls Tryz.prog 105 #[.string s] w fun x w' => ∃ (v : Int) (N : Nat), x = .returned (.tuple #[.int .i64 v, .iface 174 (.pointer (some ⟨N, 0, none⟩))]) ∧ Below w.heap.size w w' := by
  obtain ⟨_, _, ⟨e1, h3, h4⟩, ⟨e2, h5, h6⟩, _⟩ := hL
  cases ha : Lib.atoiAll s.data.toList with
  | ok v => exact absurd ha (h v)
  | range =>
    refine (Tryz.strconv_Atoi_range s (by omega) ha e2 w h5 h6).mono ?_
    rintro e w' ⟨N, rfl, _, _, hb⟩
    exact ⟨_, N, rfl, hb⟩
  | _ =>
    refine (Tryz.strconv_Atoi_bad s (by omega) (fun v hv => by rw [ha] at hv; cases hv) (fun hv => by rw [ha] at hv; cases hv) e1 w h3 h4).mono ?_
    rintro e w' ⟨N, rfl, _, _, hb⟩
    exact ⟨_, N, rfl, hb⟩

theorem uint_ok (s : ByteArray) (hs : s.size ≤ 1073741824) (u : Nat) (h : Lib.parseUintB 64 s.data.toList = .ok u) (w : World) : Calls Tryz.prog 104 #[.string s, .int .i64 10, .int .i64 64] w fun x w' => x = .returned (.tuple #[.int .u64 (u : Int), .nilIface]) ∧ Below w.heap.size w w' := by
  refine (Tryz.strconv_ParseUint_ok s (by omega) u h w).mono ?_
  rintro e w' ⟨rfl, h⟩
  refine ⟨rfl, ?_⟩
  rcases h with rfl | rfl
  · exact Below.refl _ _
  · exact bytesWorld_below w 5 s
theorem uint_bad (s : ByteArray) (hs : s.size ≤ 1073741824) (h : ∀ v, Lib.parseUintB 64 s.data.toList ≠ .ok v) (w : World) (hL : Laid w) : Calls Tryz.prog 104 #[.string s, .int .i64 10, .int .i64 64] w fun x w' => ∃ (u : Int) (N : Nat), x = .returned (.tuple #[.int .u64 u, .iface 174 (.pointer (some ⟨N, 0, none⟩))]) ∧ Below w.heap.size w w' := by
  obtain ⟨_, _, ⟨e1, h3, h4⟩, ⟨e2, h5, h6⟩, _⟩ := hL
  cases ha : Lib.parseUintB 64 s.data.toList with
  | ok v => exact absurd ha (h v)
  | range =>
    refine (Tryz.strconv_ParseUint_range s (by omega) ha e2 w h5 h6).mono ?_
    rintro e w' ⟨N, rfl, _, _, hb⟩
    exact ⟨_, N, rfl, hb⟩
  | _ =>
    refine (Tryz.strconv_ParseUint_bad s (by omega) (fun v hv => by rw [ha] at hv; cases hv) (fun hv => by rw [ha] at hv; cases hv) e1 w h3 h4).mono ?_
    rintro e w' ⟨N, rfl, _, _, hb⟩
    exact ⟨_, N, rfl, hb⟩
theorem str_append (a b : List UInt8) : (⟨a.toArray⟩ ++ ⟨b.toArray⟩ : ByteArray) = ⟨(a ++ b).toArray⟩ := by
  apply ByteArray.ext
  simp
theorem str_size (a : List UInt8) : (⟨a.toArray⟩ : ByteArray).size = a.length := by show a.toArray.size = _; simp

set_option maxRecDepth 100000 in
theorem ldexp_any (m : Nat) (e : Int) (R : Nat) (w : World) (h0 : 0 < m) (hm : m < 9007199254740992) (he : -1200 ≤ e ∧ e ≤ 1200) (hR0 : 0 < R) (hR : R < 9218868437227405312) (h : Fl.Same m e (Fl.rmag Ieee.double R) (Fl.rplace Ieee.double R)) :
    Calls Tryz.prog 63 #[.float .f64 (Fl.wordN m), .int .i64 e] w fun x w' => x = .returned (.float .f64 R) ∧ w' = w := by
  have LD := Lib.hid (fun W => ldexp_in m e R W h0 hm he hR0 hR h)
  obtain ⟨r0, hr0⟩ : ∃ r, Fl.wordN m = r := ⟨_, rfl⟩
  rw [hr0] at LD ⊢
  clear h0 hm he hR0 hR h hr0
  go_enter Tryz.func63, Tryz.ntmps63
  go_wp2_with fail
  refine (LD.out _).mono ?_
  rintro x w1 ⟨rfl, rfl⟩
  go_wp2_with fail
  go_ret
  exact ⟨rfl, rfl⟩
set_option maxRecDepth 100000 in
theorem ldexp_zero (e : Int) (w : World) : Calls Tryz.prog 63 #[.float .f64 0, .int .i64 e] w fun x w' => x = .returned (.float .f64 0) ∧ w' = w := by
  have hz : (FloatKind.f64.format.order 0 0 == some Ordering.eq) = true := by rw [ord_eq (by omega) (by omega)]; rfl
  have LD : ∀ W, Calls Tryz.prog 114 #[.float .f64 0, .int .i64 e] W fun x w' => x = .returned (.float .f64 0) ∧ w' = W := by
    intro W
    go_enter Tryz.func114, Tryz.ntmps114
    go_wp2_with fail
    go_ret
    exact ⟨rfl, rfl⟩
  have LD := Lib.hid LD
  go_enter Tryz.func63, Tryz.ntmps63
  go_wp2_with fail
  refine (LD.out _).mono ?_
  rintro x w1 ⟨rfl, rfl⟩
  go_wp2_with fail
  go_ret
  exact ⟨rfl, rfl⟩
end Go.Proofs.YtjapgpmoojfhnaaGreatDoor
