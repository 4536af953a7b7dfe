/- PositionIndents: the law's walk. -/
import Derived.Test.YtcjhipcjhgicoaaDoorWalkL
namespace Go.Proofs.YtcjhipcjhgicoaaDoor
open Go.RowKit Go.Lib

set_option maxHeartbeats 2000000 in
set_option maxRecDepth 100000 in
theorem law7 (s : ByteArray) (w : World) (hs : s.size ≤ 9223372036854775807) : Calls Tryd.prog 7 #[.string s] w fun e w' => e = .returned (.bool true) ∧ Below w.heap.size w w' := by
  obtain ⟨a, ha⟩ : ∃ a, Po.sp s.data.toList = a := ⟨_, rfl⟩
  obtain ⟨b, hb⟩ : ∃ b, Po.tab s.data.toList = b := ⟨_, rfl⟩
  have I1 := Lib.hid (fun W => indent_any s W hs)
  have I2 := Lib.hid (fun W => refindent_any s W hs)
  rw [ha, hb] at I1 I2
  clear ha hb
  go_enter Tryd.func7, Tryd.ntmps7
  go_wp2_with fail
  refine (I1.out _).mono ?_
  rintro e w1 ⟨rfl, hb1⟩
  go_wp2_with fail
  refine (I2.out _).mono ?_
  rintro e w' ⟨rfl, rfl⟩
  go_wp2_with fail
  refine (awake_any _).mono ?_
  rintro e w2 ⟨rfl, hb2⟩
  go_wp2_with fail
  go_ret
  exact ⟨by simp, hb1.trans (hb2.mono hb1.size)⟩
end Go.Proofs.YtcjhipcjhgicoaaDoor
