/- math/bits.TrailingZeros64 at this translation, by the library's contract. -/
import Derived.Test.YtjapgpmoojfhnaaGreatDoorShelf
import Derived.Shelf.Spec.TrailingZeros
import Derived.KernelRfl
namespace Go.Proofs.YtjapgpmoojfhnaaGreatDoor
open Go.RowKit Go.Lib

def tzRen : Go.Shelf.Ren := ⟨fun | 29 => 82 | n => n, fun | 0 => 0 | 3 => 3 | 4 => 4 | 5 => 5 | 22 => 22 | 25 => 51 | 54 => 168 | n => n, fun | 1 => 2 | n => n⟩
theorem tzLays : Go.Proofs.Lays7.n29 Tryz.prog tzRen := {
  mixed := by kernel_rfl
  f29 := Tryz.func82.trans (congrArg some (by kernel_rfl))
  t0 := Tryz.underlying0
  a0 := Tryz.isAgg0
  z0 := Tryz.sizeOf0
  v0 := Tryz.zeroValue0
  i0 := by kernel_rfl
  t3 := Tryz.underlying3
  a3 := Tryz.isAgg3
  z3 := Tryz.sizeOf3
  v3 := Tryz.zeroValue3
  i3 := by kernel_rfl
  t4 := Tryz.underlying4
  a4 := Tryz.isAgg4
  z4 := Tryz.sizeOf4
  v4 := Tryz.zeroValue4
  i4 := by kernel_rfl
  t5 := Tryz.underlying5
  a5 := Tryz.isAgg5
  z5 := Tryz.sizeOf5
  v5 := Tryz.zeroValue5
  i5 := by kernel_rfl
  t22 := Tryz.underlying22
  a22 := Tryz.isAgg22
  z22 := Tryz.sizeOf22
  v22 := Tryz.zeroValue22
  i22 := by kernel_rfl
  t25 := Tryz.underlying51
  a25 := Tryz.isAgg51
  z25 := Tryz.sizeOf51
  v25 := Tryz.zeroValue51
  i25 := by kernel_rfl
  t54 := Tryz.underlying168
  a54 := Tryz.isAgg168
  z54 := Tryz.sizeOf168
  g1 := by kernel_rfl }
theorem tz_any (x : Nat) (hx : x < 18446744073709551616) (w : World) (hT : TabAt 2 Lib.deBruijn64tab w) :
    Calls Tryz.prog 82 #[.int .u64 (x : Int)] w fun e w' => e = .returned (.int .i64 (Lib.ctz 64 x : Nat)) ∧ w' = w :=
  Any7.bits_TrailingZeros64 tzLays x hx w (fun _ => hT)
end Go.Proofs.YtjapgpmoojfhnaaGreatDoor
