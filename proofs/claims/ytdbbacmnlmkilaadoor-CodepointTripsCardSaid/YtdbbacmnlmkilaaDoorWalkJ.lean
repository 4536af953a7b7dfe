/- The contract of the statements' 'awake': the chapter's examples hold. And of the feeder's End. -/
import Derived.Test.YtdbbacmnlmkilaaDoorWalkI
namespace Go.Proofs.YtdbbacmnlmkilaaDoor
open Go.RowKit Go.Lib

theorem feed_ok (h : List UInt8) (s : ByteArray) (w : World) (hh : h.length ≤ 3) (hs : s.size ≤ 1073741824) (hT : Utf8Tabs 0 1 w) (he : Cp.extensible (h ++ s.data.toList) = true) :
    Calls Tryd.prog 15 #[fd h, .string s] w fun e w' => ∃ v, e = .returned (.tuple #[fd (Cp.rest (h ++ s.data.toList)), v, .int .i64 0]) ∧ Hands w' v (Cp.runes (Cp.sc (h ++ s.data.toList))) ∧ Below w.heap.size w w' :=
  (feed_any h s w hh hs hT).mono fun e w' hp => by
    rcases hp with ⟨_, h2⟩ | ⟨h1, _⟩
    · exact h2
    · rw [he] at h1; cases h1
theorem feed_bad (h : List UInt8) (s : ByteArray) (w : World) (hh : h.length ≤ 3) (hs : s.size ≤ 1073741824) (hT : Utf8Tabs 0 1 w) (he : Cp.extensible (h ++ s.data.toList) = false) :
    Calls Tryd.prog 15 #[fd h, .string s] w fun e w' => e = .returned (.tuple #[fd [], .slice none 0 0, .int .i64 11]) ∧ Below w.heap.size w w' :=
  (feed_any h s w hh hs hT).mono fun e w' hp => by
    rcases hp with ⟨h1, _⟩ | ⟨_, h2⟩
    · rw [he] at h1; cases h1
    · exact h2

/-- A feeder's value, its cells in plain sight. -/
theorem fd_eq (h : List UInt8) : ∃ y0 y1 y2 : Nat, fd h = .agg #[.int .u8 (y0 : Int), .int .u8 (y1 : Int), .int .u8 (y2 : Int), .int .i64 (h.length : Int)] := ⟨_, _, _, rfl⟩

set_option maxHeartbeats 1000000 in
set_option maxRecDepth 100000 in
theorem end_any (h : List UInt8) (w : World) : Calls Tryd.prog 17 #[fd h] w fun e w' => e = .returned (.int .i64 (if h = [] then 0 else 11)) ∧ Below w.heap.size w w' := by
  obtain ⟨y0, y1, y2, e⟩ := fd_eq h
  rw [e]
  clear e
  obtain ⟨n, hn⟩ : ∃ n, h.length = n := ⟨_, rfl⟩
  rw [hn]
  by_cases h0 : h = []
  · rw [if_pos h0]
    have hn0 : ¬ (0 : Int) < (n : Int) := by subst h0; simp at hn; omega
    clear hn h0
    go_enter Tryd.func17, Tryd.ntmps17
    go_wp2
    go_ret
    exact ⟨rfl, (Below.refl _ _).alloc (Nat.le_refl _) _⟩
  · rw [if_neg h0]
    have hn0 : (0 : Int) < (n : Int) := by have := List.length_pos_iff.2 h0; omega
    clear hn h0
    go_enter Tryd.func17, Tryd.ntmps17
    go_wp2
    go_ret
    exact ⟨rfl, (Below.refl _ _).alloc (Nat.le_refl _) _⟩

theorem aw1 : Cp.ok (ByteArray.mk #[240, 159, 152, 128]).data.toList = true := by decide +kernel
theorem aw2 : Cp.sc (ByteArray.mk #[240, 159, 152, 128]).data.toList = [128512] := by decide +kernel
theorem aw3 : Cp.ok (ByteArray.mk #[97, 226, 130]).data.toList = false := by decide +kernel
theorem aw4 : Cp.used (ByteArray.mk #[97, 226, 130]).data.toList = 1 := by decide +kernel
theorem aw5 : Cp.extensible ([] ++ (ByteArray.mk #[195]).data.toList) = true := by decide +kernel
theorem aw6 : Cp.rest ([] ++ (ByteArray.mk #[195]).data.toList) = [195] := by decide +kernel
theorem aw7 : Cp.sc ([] ++ (ByteArray.mk #[195]).data.toList) = [] := by decide +kernel
theorem aw8 : Cp.extensible ([195] ++ (ByteArray.mk #[169]).data.toList) = true := by decide +kernel
theorem aw9 : Cp.rest ([195] ++ (ByteArray.mk #[169]).data.toList) = [] := by decide +kernel
theorem aw10 : Cp.sc ([195] ++ (ByteArray.mk #[169]).data.toList) = [233] := by decide +kernel

theorem feed1 (w : World) (hT : Utf8Tabs 0 1 w) : Calls Tryd.prog 15 #[.agg #[.int .u8 0, .int .u8 0, .int .u8 0, .int .i64 0], .string (ByteArray.mk #[195])] w fun e w' =>
    ∃ v, e = .returned (.tuple #[.agg #[.int .u8 195, .int .u8 0, .int .u8 0, .int .i64 1], v, .int .i64 0]) ∧ Hands w' v (Cp.runes []) ∧ Below w.heap.size w w' :=
  (feed_ok [] (ByteArray.mk #[195]) w (by decide) (by decide) hT aw5).mono fun e w' ⟨v, h1, h2, h3⟩ => ⟨v, by rw [aw6] at h1; exact h1, by rw [aw7] at h2; exact h2, h3⟩
theorem feed2 (w : World) (hT : Utf8Tabs 0 1 w) : Calls Tryd.prog 15 #[.agg #[.int .u8 195, .int .u8 0, .int .u8 0, .int .i64 1], .string (ByteArray.mk #[169])] w fun e w' =>
    ∃ v, e = .returned (.tuple #[.agg #[.int .u8 0, .int .u8 0, .int .u8 0, .int .i64 0], v, .int .i64 0]) ∧ Hands w' v (Cp.runes [233]) ∧ Below w.heap.size w w' :=
  (feed_ok [195] (ByteArray.mk #[169]) w (by decide) (by decide) hT aw8).mono fun e w' ⟨v, h1, h2, h3⟩ => ⟨v, by rw [aw9] at h1; exact h1, by rw [aw10] at h2; exact h2, h3⟩
end Go.Proofs.YtdbbacmnlmkilaaDoor
