/- The reference: Text. -/
import Derived.Test.YtmgafnflkfbckaaGreatDoorWalkU
import Derived.Test.YtmgafnflkfbckaaGreatDoorPlain4
namespace Go.Proofs.YtmgafnflkfbckaaGreatDoor
open Go.RowKit Go.Lib

theorem lit_1 (a : UInt8) : (⟨#[a]⟩ : ByteArray) = ⟨([a] : List UInt8).toArray⟩ := rfl
theorem lit_2 (a b : UInt8) : (⟨#[a, b]⟩ : ByteArray) = ⟨([a, b] : List UInt8).toArray⟩ := rfl
theorem size_1 (a : UInt8) : (⟨#[a]⟩ : ByteArray).size = 1 := rfl
theorem size_2 (a b : UInt8) : (⟨#[a, b]⟩ : ByteArray).size = 2 := rfl
theorem ext_take (l : List UInt8) (k : Nat) : (⟨l.toArray⟩ : ByteArray).extract 0 k = ⟨(l.take k).toArray⟩ := by
  apply ByteArray.ext
  apply Array.ext'
  show (ByteArray.extract _ _ _).data.toList = _
  rw [ByteArray.data_extract]; simp
theorem ext_drop (l : List UInt8) (k : Nat) : (⟨l.toArray⟩ : ByteArray).extract k (⟨l.toArray⟩ : ByteArray).size = ⟨(l.drop k).toArray⟩ := by
  apply ByteArray.ext
  apply Array.ext'
  show (ByteArray.extract _ _ _).data.toList = _
  rw [ByteArray.data_extract, str_size]
  simp only [Array.toList_extract, List.extract_eq_take_drop]
  exact List.take_of_length_le (by simp)
end Go.Proofs.YtmgafnflkfbckaaGreatDoor
