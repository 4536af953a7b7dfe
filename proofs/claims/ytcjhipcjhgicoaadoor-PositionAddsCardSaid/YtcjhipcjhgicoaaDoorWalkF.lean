/- The contract of Indent. -/
import Derived.Test.YtcjhipcjhgicoaaDoorWalkE
import Derived.Shelf.Strings.SlTrimAscii
namespace Go.Proofs.YtcjhipcjhgicoaaDoor
open Go.RowKit Go.Lib

namespace Po
/-- The spaces at the beginning. -/
def sp (l : List UInt8) : Nat := (l.takeWhile (· == 32)).length
/-- The white space at the beginning. -/
def wh (l : List UInt8) : Nat := (l.takeWhile ([32, 9].contains ·)).length
/-- Whether a tab stands in it. -/
def tab (l : List UInt8) : Bool := decide (0 ≤ Lib.indexByte (l.take (wh l)) 9)
theorem sp_le (l : List UInt8) : sp l ≤ l.length := (List.takeWhile_prefix _).length_le
theorem wh_le (l : List UInt8) : wh l ≤ l.length := (List.takeWhile_prefix _).length_le
theorem sp_drop (l : List UInt8) : (Lib.trimLeftB l 32).length = l.length - sp l := by
  have := congrArg List.length (List.takeWhile_append_dropWhile (p := (· == (32 : UInt8))) (l := l))
  rw [List.length_append] at this
  unfold Lib.trimLeftB sp; omega
theorem wh_drop (l : List UInt8) : (Lib.trimLeftS l [32, 9]).length = l.length - wh l := by
  have := congrArg List.length (List.takeWhile_append_dropWhile (p := ([32, 9].contains · : UInt8 → Bool)) (l := l))
  rw [List.length_append] at this
  unfold Lib.trimLeftS wh; omega
end Po
theorem info56 : (Tryd.prog.info? 56).map (fun i => (i.zero, i.size)) = some (some (.agg (Array.replicate 256 (.bool false))), 256) := by kernel_rfl

set_option maxHeartbeats 2000000 in
set_option maxRecDepth 100000 in
theorem indent_any (s : ByteArray) (w : World) (hs : s.size ≤ 9223372036854775807) :
    Calls Tryd.prog 20 #[.string s] w fun e w' => e = .returned (.tuple #[.int .i64 (Po.sp s.data.toList : Int), .bool (Po.tab s.data.toList)]) ∧ Below w.heap.size w w' := by
  have hsl : s.data.toList.length = s.size := by simp
  have h1 := Po.sp_le s.data.toList
  have h2 := Po.wh_le s.data.toList
  have h3 := Po.sp_drop s.data.toList
  have h4 := Po.wh_drop s.data.toList
  have T1 := Lib.hid (Tryd.strings_TrimLeft_one s 32 (by decide))
  have T2 := Lib.hid (fun W => Any.strings_TrimLeft_laid Tryd.lays161 info56 s ⟨#[32, 9]⟩ W (by decide) (ascii_of_all (by decide)))
  obtain ⟨a, ha⟩ : ∃ a, Po.sp s.data.toList = a := ⟨_, rfl⟩
  obtain ⟨b, hb⟩ : ∃ b, Po.wh s.data.toList = b := ⟨_, rfl⟩
  have ht : Po.tab s.data.toList = decide (0 ≤ Lib.indexByte (s.data.toList.take b) 9) := by rw [Po.tab, hb]
  obtain ⟨D, hD⟩ : ∃ D : ByteArray, (⟨(Lib.trimLeftB s.data.toList 32).toArray⟩ : ByteArray) = D := ⟨_, rfl⟩
  obtain ⟨D2, hD2⟩ : ∃ D2 : ByteArray, (⟨(Lib.trimLeftS s.data.toList [32, 9]).toArray⟩ : ByteArray) = D2 := ⟨_, rfl⟩
  have hDs : D.size = s.size - a := by rw [← hD, ← hsl, ← ha, ← h3]; rfl
  have hD2s : D2.size = s.size - b := by rw [← hD2, ← hsl, ← hb, ← h4]; rfl
  rw [ha, ht]
  rw [ha, hsl] at h1
  rw [hb, hsl] at h2
  rw [hD] at T1
  have t2 := T2.out
  rw [show (⟨#[32, 9]⟩ : ByteArray).data.toList = [32, 9] from rfl, hD2] at t2
  have T2' := Lib.hid t2
  obtain ⟨X, hX⟩ : ∃ X : ByteArray, s.extract 0 b = X := ⟨_, rfl⟩
  have hXl : X.data.toList = s.data.toList.take b := by rw [← hX]; simp
  have CN := Lib.hid (Tryd.strings_Contains_one X 9)
  rw [hXl] at CN
  have ea : (s.size : Int) - (D.size : Int) = (a : Int) := by omega
  have eb : (s.size : Int) - (D2.size : Int) = (b : Int) := by omega
  have hb0 : (0 : Int) ≤ b := by omega
  have hbs : (b : Int) ≤ s.size := by omega
  clear T2 t2 ha hb ht hD hD2 hDs hD2s h3 h4 hsl hXl
  go_enter Tryd.func20, Tryd.ntmps20
  go_wp2_with fail
  refine (T1.out _).mono ?_
  rintro e w' ⟨rfl, rfl⟩
  go_wp2_with fail
  refine (T2'.out _).mono ?_
  rintro e w2 ⟨rfl, hb2⟩
  go_wp2_with fail
  refine (CN.out _).mono ?_
  rintro e w' ⟨rfl, rfl⟩
  go_wp2_with fail
  go_ret2
  exact ⟨rfl, hb2⟩
end Go.Proofs.YtcjhipcjhgicoaaDoor
