/- The reference: zeros. -/
import Derived.Test.YtmgafnflkfbckaaDoorWalkQ
namespace Go.Proofs.YtmgafnflkfbckaaDoor
open Go.RowKit Go.Lib

theorem zeros_next (k : Nat) : (⟨(List.replicate k (48 : UInt8)).toArray⟩ ++ ⟨#[48]⟩ : ByteArray) = ⟨(List.replicate (k + 1) (48 : UInt8)).toArray⟩ := by
  rw [show (⟨#[48]⟩ : ByteArray) = ⟨([48] : List UInt8).toArray⟩ from rfl, str_append, List.replicate_succ']
set_option maxHeartbeats 1000000 in
set_option maxRecDepth 100000 in
theorem zeros_any (n : Nat) (w : World) (hn : n ≤ 1048576) : Calls Tryd.prog 45 #[.int .i64 (n : Int)] w fun x w' => x = .returned (.string ⟨(List.replicate n (48 : UInt8)).toArray⟩) ∧ w' = w := by
  obtain ⟨Z, hZ⟩ : ∃ Z : ByteArray, ⟨(List.replicate n (48 : UInt8)).toArray⟩ = Z := ⟨_, rfl⟩
  rw [hZ]
  have HZ := Lib.hid hZ
  clear hZ
  go_enter Tryd.func45, Tryd.ntmps45
  go_wp2
  go_loopg [3, 4] n (fun f t i wx => ∃ (k : Nat) (T : ByteArray), t = .string T ∧ T = ⟨(List.replicate k (48 : UInt8)).toArray⟩ ∧ i = .int .i64 (k : Int) ∧ k ≤ n ∧ n ≤ k + f ∧ wx = w)
  case atStart => exact ⟨0, ⟨#[]⟩, rfl, rfl, rfl, by omega, by omega, rfl⟩
  case round =>
    obtain ⟨k, T, rfl, hT, rfl, hk, hf, rfl⟩ := hrel
    have hTs : T.size = k := by rw [hT, str_size, List.length_replicate]
    have hnx : T ++ ⟨#[48]⟩ = ⟨(List.replicate (k + 1) (48 : UInt8)).toArray⟩ := by rw [hT, zeros_next]
    have hadd := fun W => run_string_add_sum (P := Tryd.prog) (w := W) T ⟨#[48]⟩ (by rw [show (ByteArray.mk #[48]).size = 1 from rfl]; omega)
    have HT := Lib.hid hT
    have HNX := Lib.hid hnx
    clear hT hnx hTs
    by_cases hlt : k < n
    · have hin : (k : Int) < (n : Int) := by omega
      obtain ⟨f, rfl⟩ : ∃ f, gk = f + 1 := ⟨gk - 1, by omega⟩
      go_wp2
      go_roundg f
      case measure => omega
      case rel => exact ⟨k + 1, _, rfl, HNX.out, by go_num, by omega, by omega, rfl⟩
    · obtain rfl : k = n := by omega
      have hin : ¬ (k : Int) < (k : Int) := by omega
      go_wp2
      go_ret
      exact ⟨by rw [← HZ.out, ← HT.out]; rfl, rfl⟩
end Go.Proofs.YtmgafnflkfbckaaDoor
