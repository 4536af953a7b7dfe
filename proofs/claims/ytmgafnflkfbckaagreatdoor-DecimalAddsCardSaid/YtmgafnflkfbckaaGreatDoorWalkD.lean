/- The contracts of text, result, bytes, run, small. -/
import Derived.Test.YtmgafnflkfbckaaGreatDoorWalkC
namespace Go.Proofs.YtmgafnflkfbckaaGreatDoor
open Go.RowKit Go.Lib

theorem coef_len (x : Dc.D) : (Dc.coefB x).length ≤ x.c.length + 1 := by
  rw [Dc.coefB]
  split
  · simp
  · rw [List.length_append, Dc.digB_len]; have := sgn_len x.neg; omega
theorem dec_len (u k : Nat) (h : u < 10 ^ (k + 1)) : (Lib.decDigits u).length ≤ k + 1 := by
  induction k generalizing u with
  | zero => rw [Lib.decDigits, dif_pos (by simpa using h)]; simp
  | succ k ih =>
    rw [Lib.decDigits]
    split
    · simp
    · rw [List.length_append]
      have := ih (u / 10) (by rw [Nat.pow_succ] at h; omega)
      simp; omega
theorem itoa_len (n : Int) (h0 : -4611686018427387904 ≤ n) (h1 : n ≤ 4611686018427387904) : (Lib.itoa n).length ≤ 20 := by
  rw [Lib.itoa]
  split
  · have := dec_len n.natAbs 18 (by omega)
    simp; omega
  · have := dec_len n.toNat 18 (by omega)
    omega

set_option maxHeartbeats 1000000 in
set_option maxRecDepth 100000 in
theorem text_any (g : Bool) (A : Option Addr) (n : Nat) (l : List Nat) (e : Int) (w : World) (hr : Reads w w.heap.size A n (u8s l)) (hd : Dc.Digs l) (hn : n ≤ 1073741000) (he : -4611686018427387904 ≤ e ∧ e ≤ 4611686018427387904) (hL : Laid w) :
    Calls Tryz.prog 30 #[.agg #[.bool g, .slice A n n, .int .i64 e]] w fun x w' => x = .returned (.string ⟨(Dc.showB ⟨g, l, e⟩).toArray⟩) ∧ Below w.heap.size w w' := by
  have hln : l.length = n := by have := hr.1; rwa [u8s_len] at this
  obtain ⟨C, hC⟩ : ∃ S : ByteArray, ⟨(Dc.coefB ⟨g, l, e⟩).toArray⟩ = S := ⟨_, rfl⟩
  obtain ⟨T, hT⟩ : ∃ T : ByteArray, ⟨(Lib.itoa e).toArray⟩ = T := ⟨_, rfl⟩
  have hsh : (⟨(Dc.showB ⟨g, l, e⟩).toArray⟩ : ByteArray) = C ++ ⟨#[101]⟩ ++ T := by
    rw [← hC, ← hT, show (⟨#[101]⟩ : ByteArray) = ⟨([101] : List UInt8).toArray⟩ from rfl, str_append, str_append, Dc.showB]
    simp
  have hCs : C.size ≤ n + 1 := by rw [← hC, str_size]; have := coef_len ⟨g, l, e⟩; rw [← hln]; exact this
  have hTs : T.size ≤ 20 := by rw [← hT, str_size]; exact itoa_len e he.1 he.2
  rw [hsh]
  have CO := Lib.hid (fun W hW => coef_any g A n l e W hW hd hn)
  have IT := Lib.hid (fun W hW => itoa_any e he.1 he.2 W hW)
  rw [hC] at CO
  rw [hT] at IT
  have hadd := fun W => run_string_add_sum (P := Tryz.prog) (w := W) C ⟨#[101]⟩ (by rw [show (ByteArray.mk #[101]).size = 1 from rfl]; omega)
  have hadd2 := fun W => run_string_add_sum (P := Tryz.prog) (w := W) (C ++ ⟨#[101]⟩) T (by rw [ByteArray.size_append, show (ByteArray.mk #[101]).size = 1 from rfl]; omega)
  obtain ⟨w2, X, hw2, hX, hb2, hX2, hcells⟩ := box_num g A n n e w
  have hr2 := hr.on hb2
  have HC := Lib.hid hcells
  have HW2 := Lib.hid hw2
  have HXX := Lib.hid hX
  have HR2 := Lib.hid hr2
  have HL2 := Lib.hid (hL.on hb2)
  have hd2 : Below w2.heap.size w2 w2 := Below.refl _ _
  clear hC hT hsh hcells hw2 hX hr hr2 hd hln hL
  go_enter Tryz.func30, Tryz.ntmps30
  go_wp2_with fail
  rw [HW2.out, HXX.out]
  go_region_held3 (fun W => W.cell? ⟨X, 0, none⟩ = some (.bool g) ∧ W.cell? ⟨X, 1, none⟩ = some (.slice A n n) ∧ W.cell? ⟨X, 2, none⟩ = some (.int .i64 e) ∧ Below w2.heap.size w2 W)
    ((refine HC.out _ ?_; first | assumption | exact (Below.refl _ _).drew))
    (first | (go_at_call 53; refine (CO.out _ (HR2.out.on (n3 (by assumption)))).mono ?_; rintro x w7 ⟨rfl, hb7⟩; have hb7' := n3_trans (by assumption) hb7) | (go_at_call 35; refine (IT.out _ (HL2.out.on (n3 (by assumption)))).mono ?_; rintro x w7 ⟨rfl, hb7⟩; have hb7' := n3_trans (by assumption) hb7))
  all_goals
    go_wp2_with fail
    go_ret
    exact ⟨rfl, hb2.trans (hb7'.mono hb2.size)⟩

/-- What result answers. -/
def resV (x : Dc.D) : Value := if Dc.limit x = 0 then .tuple #[.string ⟨(Dc.showB x).toArray⟩, .int .i64 0] else .tuple #[.string ⟨#[]⟩, .int .i64 (Dc.limit x : Int)]
set_option maxHeartbeats 1000000 in
set_option maxRecDepth 100000 in
theorem result_any (g : Bool) (A : Option Addr) (n : Nat) (l : List Nat) (e : Int) (w : World) (hr : Reads w w.heap.size A n (u8s l)) (hd : Dc.Digs l) (hn : n ≤ 1073741000) (he : -4611686018427387904 ≤ e ∧ e ≤ 4611686018427387904) (hL : Laid w) :
    Calls Tryz.prog 29 #[.agg #[.bool g, .slice A n n, .int .i64 e]] w fun x w' => x = .returned (resV ⟨g, l, e⟩) ∧ Below w.heap.size w w' := by
  have hln : l.length = n := by have := hr.1; rwa [u8s_len] at this
  obtain ⟨m, hm⟩ : ∃ m, Dc.limit ⟨g, l, e⟩ = m := ⟨_, rfl⟩
  have LI := Lib.hid (fun W => limit_any g A n n e W)
  have hlim : limN n e = m := by rw [← hm, ← hln]; rfl
  rw [hlim] at LI
  have TX := Lib.hid (fun W hW hLW => text_any g A n l e W hW hd hn he hLW)
  obtain ⟨w2, X, hw2, hX, hb2, hX2, hcells⟩ := box_num g A n n e w
  have hr2 := hr.on hb2
  have HC := Lib.hid hcells
  have HW2 := Lib.hid hw2
  have HXX := Lib.hid hX
  have HR2 := Lib.hid hr2
  have HL2 := Lib.hid (hL.on hb2)
  have hd2 : Below w2.heap.size w2 w2 := Below.refl _ _
  obtain ⟨q0, q1, q2, _⟩ := hcells w2 hd2
  rw [resV, hm]
  by_cases h0 : m = 0
  · rw [if_pos h0]
    have hmi : ((m : Int) != 0) = false := by simp; omega
    clear hm hcells hw2 hX hr hr2 hd hln hL hlim h0
    go_enter Tryz.func29, Tryz.ntmps29
    go_upto_region 1 with fail
    rw [HW2.out, HXX.out]
    go_wp2_with fail
    refine (LI.out _).mono ?_
    rintro x w7 ⟨rfl, hb7⟩
    have hd7 := hd2.trans hb7
    clear q0 q1 q2
    obtain ⟨q0, q1, q2, _⟩ := HC.out _ hd7
    go_wp2_with fail
    refine (TX.out _ (HR2.out.on hd7) (HL2.out.on hd7)).mono ?_
    rintro x w8 ⟨rfl, hb8⟩
    go_wp2_with fail
    go_ret2
    exact ⟨rfl, hb2.trans ((hd7.trans (hb8.mono hd7.size)).mono hb2.size)⟩
  · rw [if_neg h0]
    have hmi : ((m : Int) != 0) = true := by simp; omega
    clear hm hcells hw2 hX hr hr2 hd hln hL hlim h0
    go_enter Tryz.func29, Tryz.ntmps29
    go_upto_region 1 with fail
    rw [HW2.out, HXX.out]
    go_wp2_with fail
    refine (LI.out _).mono ?_
    rintro x w7 ⟨rfl, hb7⟩
    have hd7 := hd2.trans hb7
    go_wp2_with fail
    go_ret2
    exact ⟨rfl, hb2.trans (hd7.mono hb2.size)⟩
end Go.Proofs.YtmgafnflkfbckaaGreatDoor
