/- order of digits. -/
import Derived.Test.YtjapgpmoojfhnaaGreatDoorWalkV
namespace Go.Proofs.YtjapgpmoojfhnaaGreatDoor
open Go.RowKit Go.Lib

def ordB (a b : ByteArray) : Int := if a.size = b.size then Lib.compareBytes a.data.toList b.data.toList else (a.size : Int) - (b.size : Int)
set_option maxRecDepth 100000 in
theorem order_any (a b : ByteArray) (w : World) (ha : a.size ≤ 1073741824) (hb : b.size ≤ 1073741824) : Calls Tryz.prog 75 #[.string a, .string b] w fun x w' => x = .returned (.int .i64 (ordB a b)) ∧ w' = w := by
  have CM := Lib.hid (fun W => Tryz.strings_Compare a b W)
  unfold ordB
  by_cases h : a.size = b.size
  · rw [if_pos h]
    have c1 : ((a.size : Int) != (b.size : Int)) = false := by rw [h]; simp
    obtain ⟨k, hk⟩ : ∃ k, Lib.compareBytes a.data.toList b.data.toList = k := ⟨_, rfl⟩
    rw [hk] at CM ⊢
    clear h hk ha hb
    go_enter Tryz.func75, Tryz.ntmps75
    go_wp2_with fail
    refine (CM.out _).mono ?_
    rintro x w1 ⟨rfl, rfl⟩
    go_wp2_with fail
    go_ret
    exact ⟨rfl, rfl⟩
  · rw [if_neg h]
    have c1 : ((a.size : Int) != (b.size : Int)) = true := by rw [bne_iff_ne]; omega
    have g1 : IntKind.i64.wrap ((a.size : Int) - (b.size : Int)) = (a.size : Int) - (b.size : Int) := IntWalk.i64_in _ (by omega)
    clear h ha hb
    go_enter Tryz.func75, Tryz.ntmps75
    go_wp2_with fail
    go_ret
    exact ⟨rfl, rfl⟩
end Go.Proofs.YtjapgpmoojfhnaaGreatDoor
