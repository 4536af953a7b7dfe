/- The contract of the statements' 'awake': the chapter's examples hold. -/
import Derived.Test.YtdbbacmnlmkilaaDoorWalkJ
namespace Go.Proofs.YtdbbacmnlmkilaaDoor
open Go.RowKit Go.Lib

/-- A list of scalars handed back, its slice in plain sight. -/
theorem hands_open {w : World} {v : Value} {l : List Nat} (h : Hands w v (Cp.runes l)) : ∃ A c, v = .slice A l.length c ∧ Reads w w.heap.size A l.length (i32s (l.map fun (r : Nat) => (r : Int))) := by
  obtain ⟨A, c, e, hr⟩ := h
  rw [Cp.runes_length] at e hr
  rw [runes_i32s] at hr
  exact ⟨A, c, e, hr⟩
theorem dec1 (w : World) (hT : Utf8Tabs 0 1 w) : Calls Tryd.prog 13 #[.string (ByteArray.mk #[240, 159, 152, 128])] w fun e w' =>
    ∃ A c, e = .returned (.tuple #[.slice A 1 c, .int .i64 0]) ∧ Reads w' w'.heap.size A 1 (i32s [128512]) ∧ Below w.heap.size w w' :=
  (decode_ok _ w hT (by decide) aw1).mono fun e w' ⟨v, h1, h2, h3⟩ => by
    rw [aw2] at h2
    obtain ⟨A, c, rfl, hr⟩ := hands_open h2
    exact ⟨A, c, h1, hr, h3⟩
theorem chk1 (w : World) (hT : Utf8Tabs 0 1 w) : Calls Tryd.prog 12 #[.string (ByteArray.mk #[97, 226, 130])] w fun e w' => e = .returned (.tuple #[.int .i64 1, .int .i64 11]) ∧ Below w.heap.size w w' :=
  (check_bad _ w hT aw3).mono fun e w' ⟨h1, h2⟩ => ⟨by rw [aw4] at h1; exact h1, h2⟩
theorem feed1' (w : World) (hT : Utf8Tabs 0 1 w) : Calls Tryd.prog 15 #[.agg #[.int .u8 0, .int .u8 0, .int .u8 0, .int .i64 0], .string (ByteArray.mk #[195])] w fun e w' =>
    ∃ A c, e = .returned (.tuple #[.agg #[.int .u8 195, .int .u8 0, .int .u8 0, .int .i64 1], .slice A 0 c, .int .i64 0]) ∧ Below w.heap.size w w' :=
  (feed1 w hT).mono fun e w' ⟨v, h1, h2, h3⟩ => by
    obtain ⟨A, c, rfl, hr⟩ := hands_open h2
    exact ⟨A, c, h1, h3⟩
theorem feed2' (w : World) (hT : Utf8Tabs 0 1 w) : Calls Tryd.prog 15 #[.agg #[.int .u8 195, .int .u8 0, .int .u8 0, .int .i64 1], .string (ByteArray.mk #[169])] w fun e w' =>
    ∃ A c, e = .returned (.tuple #[.agg #[.int .u8 0, .int .u8 0, .int .u8 0, .int .i64 0], .slice A 1 c, .int .i64 0]) ∧ Reads w' w'.heap.size A 1 (i32s [233]) ∧ Below w.heap.size w w' :=
  (feed2 w hT).mono fun e w' ⟨v, h1, h2, h3⟩ => by
    obtain ⟨A, c, rfl, hr⟩ := hands_open h2
    exact ⟨A, c, h1, hr, h3⟩
theorem same1 (x : Int) (A A' : Option Addr) (c c' : Nat) (w : World) (hA : Reads w w.heap.size A 1 (i32s [x])) (hA' : Reads w w.heap.size A' 1 (i32s [x])) :
    Calls Tryd.prog 14 #[.slice A 1 c, .slice A' 1 c'] w fun e w' => e = .returned (.bool true) ∧ Below w.heap.size w w' :=
  (is_same [x] A A' c c' w hA hA' (by simp)).mono fun e w' ⟨h1, k, h2⟩ => ⟨h1, by rw [h2]; exact ⟨rfl, rfl, rfl, Nat.le_refl _, fun _ _ => rfl⟩⟩

theorem new_reads (w : World) (x : Int) (T : TypeId) : Reads (w.alloc (.cells #[.int .i32 x] T)) (w.alloc (.cells #[.int .i32 x] T)).heap.size (some ⟨w.heap.size, 0, none⟩) 1 (i32s [x]) := by
  refine ⟨rfl, fun _ => ⟨w.heap.size, 0, rfl, by simp, fun j u hj => ?_⟩⟩
  match j, hj with
  | 0, hj =>
    simp [i32s] at hj
    subst hj
    simp only [World.cell?, heap_alloc_new]
    rfl

theorem new_reads' (w : World) (x : Int) (T : TypeId) (k : Nat) (hk : k = w.heap.size) : Reads (w.alloc (.cells #[.int .i32 x] T)) (w.alloc (.cells #[.int .i32 x] T)).heap.size (some ⟨k, 0, none⟩) 1 (i32s [x]) := by
  subst hk; exact new_reads w x T

set_option maxHeartbeats 2000000 in
set_option maxRecDepth 100000 in
theorem awake_any (w : World) (hT : Utf8Tabs 0 1 w) : Calls Tryd.prog 10 #[] w fun e w' => e = .returned (.bool true) ∧ Below w.heap.size w w' := by
  have h2 := Cp.tabs_lt hT
  go_enter Tryd.func10, Tryd.ntmps10
  go_wp2_with fail
  refine (dec1 w hT).mono ?_
  rintro e w1 ⟨A1, c1, rfl, hr1, hb1⟩
  have hT1 := Cp.tabs_below hT hb1 h2
  go_wp2_with fail
  refine (chk1 w1 hT1).mono ?_
  rintro e w2 ⟨rfl, hb2⟩
  have hb2' := hb1.trans (hb2.mono hb1.size)
  have hT2 := Cp.tabs_below hT hb2' h2
  have hr2 := hr1.on hb2
  clear hr1
  go_wp2_with fail
  have hb23 := (Below.refl w2.heap.size w2).alloc (Nat.le_refl _) (.cells #[.int .u8 0, .int .u8 0, .int .u8 0, .int .i64 0] 38)
  refine (feed1' _ (Cp.tabs_below hT2 hb23 (Cp.tabs_lt hT2))).mono ?_
  rintro e w3 ⟨A3, c3, rfl, hb3⟩
  have hb3' : Below w2.heap.size w2 w3 := hb23.trans (hb3.mono (by simp))
  clear hb23
  have hb3w := hb2'.trans (hb3'.mono hb2'.size)
  have hT3 := Cp.tabs_below hT hb3w h2
  have hr3 := hr2.on hb3'
  clear hr2 hb3 hb3' hb2 hb2'
  go_wp2_with fail
  have hb34 := (Below.refl w3.heap.size w3).alloc (Nat.le_refl _) (.cells #[.int .u8 195, .int .u8 0, .int .u8 0, .int .i64 1] 38)
  refine (feed2' _ (Cp.tabs_below hT3 hb34 (Cp.tabs_lt hT3))).mono ?_
  rintro e w4 ⟨A4, c4, rfl, hr4, hb4⟩
  have hb4' : Below w3.heap.size w3 w4 := hb34.trans (hb4.mono (by simp))
  clear hb34
  have hb4w := hb3w.trans (hb4'.mono hb3w.size)
  have hr3' := hr3.on hb4'
  clear hr3 hb3w hb4 hb4'
  go_wp2_with fail
  have hb45 : Below w4.heap.size w4 ((w4.alloc (.cells #[.int .u8 0, .int .u8 0, .int .u8 0, .int .i64 0] 38)).alloc (.cells #[.int .i32 128512] 21)) := ((Below.refl w4.heap.size w4).alloc (Nat.le_refl _) _).alloc (by simp) _
  refine (same1 128512 A1 (some ⟨w4.heap.size + 1, 0, none⟩) c1 1 _ (hr3'.on hb45) (new_reads' (w4.alloc (.cells #[.int .u8 0, .int .u8 0, .int .u8 0, .int .i64 0] 38)) 128512 21 _ (by simp))).mono ?_
  rintro e w5 ⟨rfl, hb5⟩
  have hb5' : Below w4.heap.size w4 w5 := hb45.trans (hb5.mono (by simp; omega))
  have hr5 := hr4.on hb5'
  have hb5w := hb4w.trans (hb5'.mono hb4w.size)
  clear hb45 hr4 hr3' hb5 hb5' hb4w
  go_wp2_with fail
  refine (same1 233 A4 (some ⟨w5.heap.size, 0, none⟩) c4 1 _ (hr5.on ((Below.refl w5.heap.size w5).alloc (Nat.le_refl _) _)) (new_reads _ _ _)).mono ?_
  rintro e w6 ⟨rfl, hb6⟩
  have hb6w := hb5w.trans ((((Below.refl w5.heap.size w5).alloc (Nat.le_refl _) (.cells #[.int .i32 233] 21)).trans (hb6.mono (by simp))).mono hb5w.size)
  clear hr5 hb6 hb5w
  go_wp2_with fail
  go_ret
  exact ⟨rfl, hb6w⟩
end Go.Proofs.YtdbbacmnlmkilaaDoor
