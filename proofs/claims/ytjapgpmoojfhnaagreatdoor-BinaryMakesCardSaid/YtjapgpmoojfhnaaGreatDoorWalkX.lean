/- order of digits. canonical at a number that is not negative. -/
import Derived.Test.YtjapgpmoojfhnaaGreatDoorWalkV
namespace Go.Proofs.YtjapgpmoojfhnaaGreatDoor
open Go.RowKit Go.Lib

def ordB (a b : ByteArray) : Int := if a.size = b.size then Lib.compareBytes a.data.toList b.data.toList else (a.size : Int) - (b.size : Int)
set_option maxRecDepth 100000 in
theorem order_any (a b : ByteArray) (w : World) (ha : a.size ≤ 1073741824) (hb : b.size ≤ 1073741824) : Calls Tryz.prog 75 #[.string a, .string b] w fun x w' => x = .returned (.int .i64 (ordB a b)) ∧ w' = w := by
  have CM := Lib.hid (fun W => Tryz.strings_Compare a b W)
  unfold ordB
  by_cases h : a.size = b.size
  · rw [if_pos h]
    have c1 : ((a.size : Int) != (b.size : Int)) = false := by rw [h]; simp
    obtain ⟨k, hk⟩ : ∃ k, Lib.compareBytes a.data.toList b.data.toList = k := ⟨_, rfl⟩
    rw [hk] at CM ⊢
    clear h hk ha hb
    go_enter Tryz.func75, Tryz.ntmps75
    go_wp2_with fail
    refine (CM.out _).mono ?_
    rintro x w1 ⟨rfl, rfl⟩
    go_wp2_with fail
    go_ret
    exact ⟨rfl, rfl⟩
  · rw [if_neg h]
    have c1 : ((a.size : Int) != (b.size : Int)) = true := by rw [bne_iff_ne]; omega
    have g1 : IntKind.i64.wrap ((a.size : Int) - (b.size : Int)) = (a.size : Int) - (b.size : Int) := IntWalk.i64_in _ (by omega)
    clear h ha hb
    go_enter Tryz.func75, Tryz.ntmps75
    go_wp2_with fail
    go_ret
    exact ⟨rfl, rfl⟩
end Go.Proofs.YtjapgpmoojfhnaaGreatDoor

namespace Go.Proofs.YtjapgpmoojfhnaaGreatDoor
open Go.RowKit Go.Lib

set_option maxHeartbeats 1000000 in
set_option maxRecDepth 100000 in
theorem canonical_any (s T : ByteArray) (e x : Int) (w : World) (hs : s.size ≤ 100000) (hT : (⟨(Lib.trimRightB s.data.toList 48).toArray⟩ : ByteArray) = T) (hTs : T.size ≤ 100000) (he : -1000000 ≤ e ∧ e ≤ 1000000) (hx : e + (s.size : Int) - (T.size : Int) = x) (hxi : (itoa x).length ≤ 100) (hL : Laid w) :
    Calls Tryz.prog 79 #[.bool false, .string s, .int .i64 e] w fun z w' => z = .returned (.string (T ++ ⟨#[101]⟩ ++ ⟨(itoa x).toArray⟩)) ∧ Below w.heap.size w w' := by
  have TR : ∀ W, Calls Tryz.prog 124 #[.string s, .string ⟨#[48]⟩] W fun z w' => z = .returned (.string T) ∧ w' = W := fun W => by
    have h := Tryz.strings_TrimRight_one s 48 (by decide) W (by omega)
    rw [hT] at h
    exact h
  have g1 : IntKind.i64.wrap (e + (s.size : Int)) = e + (s.size : Int) := IntWalk.i64_in _ (by omega)
  have g2 : IntKind.i64.wrap (e + (s.size : Int) - (T.size : Int)) = x := by rw [← hx]; exact IntWalk.i64_in _ (by omega)
  have IT := fun W hW => itoa_any x (by omega) (by omega) W hW
  obtain ⟨I, hI⟩ : ∃ I : ByteArray, ⟨(itoa x).toArray⟩ = I := ⟨_, rfl⟩
  have hIs : I.size ≤ 100 := by rw [← hI]; exact hxi
  rw [hI] at IT ⊢
  have hadd1 := fun W => run_string_add_sum (P := Tryz.prog) (w := W) T ⟨#[101]⟩ (by show T.size + 1 ≤ _; omega)
  have hadd2 := fun W => run_string_add_sum (P := Tryz.prog) (w := W) (T ++ ⟨#[101]⟩) I (by rw [ByteArray.size_append]; show T.size + 1 + I.size ≤ _; omega)
  have TR := Lib.hid TR
  have IT := Lib.hid IT
  have HL := Lib.hid hL
  clear hI hIs hT hTs hs he hx hxi hL
  go_enter Tryz.func79, Tryz.ntmps79
  go_wp2_with fail
  refine (TR.out _).mono ?_
  rintro z w1 ⟨rfl, rfl⟩
  go_wp2_with fail
  refine (IT.out _ HL.out).mono ?_
  rintro z w2 ⟨rfl, hb2⟩
  go_wp2_with fail
  go_ret
  exact ⟨rfl, hb2⟩
end Go.Proofs.YtjapgpmoojfhnaaGreatDoor
