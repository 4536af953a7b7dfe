/- is0, at a result that is right; Int, the program's and the reference's. -/
import Derived.Test.YtmgafnflkfbckaaGreatDoorWalkAG
import Derived.Test.YtmgafnflkfbckaaGreatDoorWalkAB
namespace Go.Proofs.YtmgafnflkfbckaaGreatDoor
open Go.RowKit Go.Lib

set_option maxHeartbeats 1000000 in
set_option maxRecDepth 100000 in
theorem is0_true (g : Bool) (A : Option Addr) (n c : Nat) (l : List Nat) (e : Int) (w : World) (hr : Reads w w.heap.size A n (i64s l)) (hd : Dc.Digs l) (hn : n ≤ 1048576) :
    Calls Tryz.prog 12 #[.string ⟨(Dc.resS ⟨g, l, e⟩).toArray⟩, .int .i64 (Dc.limit ⟨g, l, e⟩ : Int), .agg #[.bool g, .slice A n c, .int .i64 e]] w fun x w' => x = .returned (.bool true) ∧ Below w.heap.size w w' := by
  have hln : l.length = n := by have := hr.1; rwa [i64s_len] at this
  obtain ⟨m, hm⟩ : ∃ m, Dc.limit ⟨g, l, e⟩ = m := ⟨_, rfl⟩
  have LI := Lib.hid (fun W => reflimit_any g A n c e W)
  have hlim : limN n e = m := by rw [← hm, ← hln]; rfl
  rw [hlim] at LI
  rw [hm]
  obtain ⟨w2, X, hw2, hX, hb2, hX2, hcells⟩ := box_ref g A n c e w
  have hr2 := hr.on hb2
  have HC := Lib.hid hcells
  have HW2 := Lib.hid hw2
  have HXX := Lib.hid hX
  have HR2 := Lib.hid hr2
  have hd2 : Below w2.heap.size w2 w2 := Below.refl _ _
  obtain ⟨q0, q1, q2, _⟩ := hcells w2 hd2
  by_cases h0 : m = 0
  · obtain ⟨_, b3, b4⟩ := Dc.limit_ok.1 (hm.trans h0)
    have SH := fun W hW => show_any g A n c l e W hW hd hn ⟨by simp only at b3; omega, by simp only at b4; omega⟩
    obtain ⟨T, hT⟩ : ∃ T : ByteArray, ⟨(Dc.showB ⟨g, l, e⟩).toArray⟩ = T := ⟨_, rfl⟩
    rw [hT] at SH
    have SH := Lib.hid SH
    rw [Dc.resS, if_pos (hm.trans h0), hT]
    have hm0 : ((m : Int) == 0) = true := by simp; omega
    subst h0
    clear hcells hw2 hX hr hr2 hd hln hlim hm hT b3 b4
    go_enter Tryz.func12, Tryz.ntmps12
    go_upto_region 1 with fail
    rw [HW2.out, HXX.out]
    go_wp2_with fail
    refine (LI.out _).mono ?_
    rintro x w3 ⟨rfl, hb3⟩
    clear q0 q1 q2
    obtain ⟨q0, q1, q2, _⟩ := HC.out _ hb3
    go_wp2_with fail
    refine (SH.out _ (HR2.out.on hb3)).mono ?_
    rintro x w4 ⟨rfl, hb4⟩
    go_wp2_with fail
    go_ret
    exact ⟨rfl, hb2.trans ((hb3.trans (hb4.mono hb3.size)).mono hb2.size)⟩
  · rw [Dc.resS, if_neg (by rw [hm]; exact h0)]
    have hm0 : ((m : Int) == 0) = false := by simp; omega
    clear hcells hw2 hX hr hr2 hd hln hlim hm h0
    go_enter Tryz.func12, Tryz.ntmps12
    go_upto_region 1 with fail
    rw [HW2.out, HXX.out]
    go_wp2_with fail
    refine (LI.out _).mono ?_
    rintro x w3 ⟨rfl, hb3⟩
    clear q0 q1 q2
    obtain ⟨q0, q1, q2, _⟩ := HC.out _ hb3
    go_wp2_with fail
    refine (LI.out _).mono ?_
    rintro x w4 ⟨rfl, hb4⟩
    go_wp2_with fail
    go_ret
    exact ⟨rfl, hb2.trans ((hb3.trans (hb4.mono hb3.size)).mono hb2.size)⟩

namespace Dc
/-- What Int answers of a number. -/
def intOkB (x : D) : Bool := !decide (x.e < 0) && decide ((x.c.length : Int) + x.e ≤ 400)
def intS (x : D) : List UInt8 := if intOkB x = true then coefB x ++ List.replicate x.e.toNat 48 else []
end Dc
end Go.Proofs.YtmgafnflkfbckaaGreatDoor
