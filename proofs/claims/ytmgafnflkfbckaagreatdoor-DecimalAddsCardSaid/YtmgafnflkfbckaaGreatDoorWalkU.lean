/- The reference: Limit, sign. Its numbers hold their digits as ints. The reference: zeros. The reference: number. The reference: word. The reference: Coef, Show. -/
import Derived.Test.YtmgafnflkfbckaaGreatDoorWalkC
import Derived.Test.YtmgafnflkfbckaaGreatDoorWalkD
namespace Go.Proofs.YtmgafnflkfbckaaGreatDoor
open Go.RowKit Go.Lib

set_option maxHeartbeats 1000000 in
set_option maxRecDepth 100000 in
theorem refsign_any (g : Bool) (A : Option Addr) (n c : Nat) (e : Int) (w : World) : Calls Tryz.prog 60 #[.agg #[.bool g, .slice A n c, .int .i64 e]] w fun x w' => x = .returned (.string ⟨(Dc.sgnB g).toArray⟩) ∧ Below w.heap.size w w' := by
  cases g with
  | true =>
    go_enter Tryz.func60, Tryz.ntmps60
    go_wp2
    go_ret
    exact ⟨rfl, (Below.refl _ _).alloc (Nat.le_refl _) _⟩
  | false =>
    go_enter Tryz.func60, Tryz.ntmps60
    go_wp2
    go_ret
    exact ⟨rfl, (Below.refl _ _).alloc (Nat.le_refl _) _⟩

set_option maxHeartbeats 1000000 in
set_option maxRecDepth 100000 in
theorem reflimit_any (g : Bool) (A : Option Addr) (n c : Nat) (e : Int) (w : World) : Calls Tryz.prog 18 #[.agg #[.bool g, .slice A n c, .int .i64 e]] w fun x w' => x = .returned (.int .i64 (limN n e : Int)) ∧ Below w.heap.size w w' := by
  by_cases h1 : 400 < n
  · rw [limN, if_pos h1]
    have hi : (400 : Int) < n := by omega
    go_enter Tryz.func18, Tryz.ntmps18
    go_wp2
    go_ret
    exact ⟨rfl, (Below.refl _ _).alloc (Nat.le_refl _) _⟩
  · rw [limN, if_neg h1]
    have hi : ¬ (400 : Int) < n := by omega
    by_cases h3 : 2000 < e
    · rw [if_pos (Or.inr h3)]
      go_enter Tryz.func18, Tryz.ntmps18
      go_wp2
      go_ret
      exact ⟨rfl, (Below.refl _ _).alloc (Nat.le_refl _) _⟩
    · by_cases h2 : e < -2000
      · rw [if_pos (Or.inl h2)]
        go_enter Tryz.func18, Tryz.ntmps18
        go_wp2
        go_ret
        exact ⟨rfl, (Below.refl _ _).alloc (Nat.le_refl _) _⟩
      · rw [if_neg (by omega)]
        go_enter Tryz.func18, Tryz.ntmps18
        go_wp2
        go_ret
        exact ⟨rfl, (Below.refl _ _).alloc (Nat.le_refl _) _⟩
end Go.Proofs.YtmgafnflkfbckaaGreatDoor

namespace Go.Proofs.YtmgafnflkfbckaaGreatDoor
open Go.RowKit Go.Lib

theorem zeros_next (k : Nat) : (⟨(List.replicate k (48 : UInt8)).toArray⟩ ++ ⟨#[48]⟩ : ByteArray) = ⟨(List.replicate (k + 1) (48 : UInt8)).toArray⟩ := by
  rw [show (⟨#[48]⟩ : ByteArray) = ⟨([48] : List UInt8).toArray⟩ from rfl, str_append, List.replicate_succ']
end Go.Proofs.YtmgafnflkfbckaaGreatDoor

namespace Go.Proofs.YtmgafnflkfbckaaGreatDoor
open Go.RowKit Go.Lib

set_option maxHeartbeats 1000000 in
set_option maxRecDepth 100000 in
theorem numnat_small (u : Nat) (w : World) (h : u < 10) : Calls Tryz.prog 38 #[.int .i64 (u : Int)] w fun x w' => x = .returned (.string ⟨(Lib.decDigits u).toArray⟩) ∧ Below w.heap.size w w' := by
  obtain ⟨Z, hZ⟩ : ∃ Z : ByteArray, ⟨(Lib.decDigits u).toArray⟩ = Z := ⟨_, rfl⟩
  rw [hZ]
  have hn : ¬ (u : Int) < 0 := by omega
  have h9 : ¬ (9 : Int) < (u : Int) := by omega
  have hw : IntKind.u8.wrap (48 + (u : Int)) = 48 + (u : Int) := by rw [IntKind.wrap_u8]; omega
  have HZ := Lib.hid hZ
  clear hZ
  have hcv : ∀ W : World, W.cell? ⟨w.heap.size, 0, none⟩ = some (.int .u8 (48 + (u : Int))) → w.heap.size < W.heap.size → (convert 44 9 (.slice (some ⟨w.heap.size, 0, none⟩) 1 1)).run Tryz.prog W = .ok (.string Z) W := by
    intro W hc hlt
    have hR : Reads W W.heap.size (some ⟨w.heap.size, 0, none⟩) 1 (u8s [48 + u]) := by
      refine ⟨rfl, fun _ => ⟨w.heap.size, 0, rfl, hlt, fun j v hv => ?_⟩⟩
      match j, hv with
      | 0, hv =>
        simp [u8s] at hv
        rw [← hv]; exact hc
    have := conv_bytes (c := 1) hR (fun hh => by cases hh)
    rw [this, ← HZ.out, Lib.decDigits_one h]
    rfl
  have hcv2 := hcv (w.alloc (.cells #[.int .u8 (48 + (u : Int))] 5)) (at_block (heap_alloc_new w _) 0 _ rfl) (by simp)
  go_enter Tryz.func38, Tryz.ntmps38
  go_wp2
  go_ret
  exact ⟨rfl, (Below.refl _ _).alloc (Nat.le_refl _) _⟩
theorem dec_big {u : Nat} (h : ¬ u < 10) : (⟨(Lib.decDigits u).toArray⟩ : ByteArray) = ⟨(Lib.decDigits (u / 10)).toArray⟩ ++ ⟨(Lib.decDigits (u % 10)).toArray⟩ := by
  rw [str_append, Lib.decDigits_one (show u % 10 < 10 by omega)]
  conv => lhs; rw [Lib.decDigits, dif_neg h]
theorem dec_size (u : Nat) (h : u ≤ 1000000000000) : (⟨(Lib.decDigits u).toArray⟩ : ByteArray).size ≤ 13 := by
  rw [str_size]; exact dec_len u 12 (by omega)

set_option maxHeartbeats 1000000 in
set_option maxRecDepth 100000 in
theorem numnat_any (u : Nat) (hu : u ≤ 1000000000000) : ∀ w : World, Calls Tryz.prog 38 #[.int .i64 (u : Int)] w fun x w' => x = .returned (.string ⟨(Lib.decDigits u).toArray⟩) ∧ Below w.heap.size w w' := by
  induction u using Nat.strongRecOn with
  | _ u ih =>
    intro w
    by_cases h : u < 10
    · exact numnat_small u w h
    · obtain ⟨S, hS⟩ : ∃ S : ByteArray, ⟨(Lib.decDigits (u / 10)).toArray⟩ = S := ⟨_, rfl⟩
      obtain ⟨T, hT⟩ : ∃ T : ByteArray, ⟨(Lib.decDigits (u % 10)).toArray⟩ = T := ⟨_, rfl⟩
      rw [dec_big h, hS, hT]
      have hSs : S.size ≤ 13 := by rw [← hS]; exact dec_size _ (by omega)
      have hTs : T.size ≤ 13 := by rw [← hT]; exact dec_size _ (by omega)
      have I1 := ih (u / 10) (by omega) (by omega)
      have I2 := ih (u % 10) (by omega) (by omega)
      rw [hS] at I1
      rw [hT] at I2
      obtain ⟨q, hq⟩ : ∃ q, u / 10 = q := ⟨_, rfl⟩
      obtain ⟨r, hr⟩ : ∃ r, u % 10 = r := ⟨_, rfl⟩
      rw [hq] at I1
      rw [hr] at I2
      have hn : ¬ (u : Int) < 0 := by omega
      have h9 : (9 : Int) < (u : Int) := by omega
      have hdv : Int.tdiv (u : Int) 10 = (q : Int) := by rw [Int.tdiv_eq_ediv_of_nonneg (by omega)]; omega
      have hmd : Int.tmod (u : Int) 10 = (r : Int) := by rw [Int.tmod_eq_emod_of_nonneg (by omega)]; omega
      have HI1 := Lib.hid I1
      have HI2 := Lib.hid I2
      have HDV := Lib.hid (And.intro hdv hmd)
      have hqd : (u : Int) / 10 = (q : Int) := by omega
      have hrd : (u : Int) % 10 = (r : Int) := by omega
      have HQ := Lib.hid (And.intro hqd hrd)
      clear I1 I2 hS hT hq hr ih h hdv hmd hqd hrd
      go_enter Tryz.func38, Tryz.ntmps38
      go_wp2_with fail
      try rw [HDV.out.1]
      try rw [HQ.out.1]
      refine (HI1.out _).mono ?_
      rintro x w7 ⟨rfl, hb7⟩
      go_wp2_with fail
      try rw [HDV.out.2]
      try rw [HQ.out.2]
      refine (HI2.out _).mono ?_
      rintro x w8 ⟨rfl, hb8⟩
      go_wp2_with fail
      go_ret
      exact ⟨rfl, hb7.trans (hb8.mono hb7.size)⟩

set_option maxHeartbeats 1000000 in
set_option maxRecDepth 100000 in
theorem number_any (n : Int) (w : World) (h0 : -1000000000000 ≤ n) (h1 : n ≤ 1000000000000) : Calls Tryz.prog 38 #[.int .i64 n] w fun x w' => x = .returned (.string ⟨(Lib.itoa n).toArray⟩) ∧ Below w.heap.size w w' := by
  by_cases hn : n < 0
  · obtain ⟨u, hu⟩ : ∃ u : Nat, n.natAbs = u := ⟨_, rfl⟩
    have hnu : n = -(u : Int) := by omega
    obtain ⟨S, hS⟩ : ∃ S : ByteArray, ⟨(Lib.decDigits u).toArray⟩ = S := ⟨_, rfl⟩
    have he : (⟨(Lib.itoa n).toArray⟩ : ByteArray) = ⟨#[45]⟩ ++ S := by
      rw [← hS, show (⟨#[45]⟩ : ByteArray) = ⟨([45] : List UInt8).toArray⟩ from rfl, str_append, Lib.itoa, if_pos hn, hu]
      rfl
    have hSs : S.size ≤ 13 := by rw [← hS]; exact dec_size _ (by omega)
    have I1 := numnat_any u (by omega)
    rw [hS] at I1
    rw [he]
    have hadd := fun W => run_string_add_sum (P := Tryz.prog) (w := W) ⟨#[45]⟩ S (by rw [show (ByteArray.mk #[45]).size = 1 from rfl]; omega)
    have HI := Lib.hid I1
    have hneg : -n = (u : Int) := by omega
    have HN := Lib.hid hneg
    clear I1 hS he hu hnu hneg
    go_enter Tryz.func38, Tryz.ntmps38
    go_wp2_with fail
    rw [HN.out]
    refine (HI.out _).mono ?_
    rintro x w7 ⟨rfl, hb7⟩
    go_wp2_with fail
    go_ret
    exact ⟨rfl, hb7⟩
  · obtain ⟨u, hu⟩ : ∃ u : Nat, n = (u : Int) := ⟨n.toNat, by omega⟩
    subst hu
    have := numnat_any u (by omega) w
    rw [Lib.itoa_nonneg]
    exact this
end Go.Proofs.YtmgafnflkfbckaaGreatDoor

namespace Go.Proofs.YtmgafnflkfbckaaGreatDoor
open Go.RowKit Go.Lib

theorem word_next {l : List Nat} {k x : Nat} (h : l[k]? = some x) (hx : x < 10) : (⟨(Dc.digB (l.take k)).toArray⟩ ++ ⟨(Lib.itoa (x : Int)).toArray⟩ : ByteArray) = ⟨(Dc.digB (l.take (k + 1))).toArray⟩ := by
  rw [str_append, Lib.itoa_nonneg, Lib.decDigits_one hx, List.take_add_one, h]
  simp [Dc.digB]
set_option maxHeartbeats 1000000 in
set_option maxRecDepth 100000 in
theorem word_any (A : Option Addr) (n c : Nat) (l : List Nat) (w : World) (hr : Reads w w.heap.size A n (i64s l)) (hd : Dc.Digs l) (hn : n ≤ 1048576) :
    Calls Tryz.prog 61 #[.slice A n c] w fun x w' => x = .returned (.string ⟨(Dc.digB l).toArray⟩) ∧ Below w.heap.size w w' := by
  have hln : l.length = n := by have := hr.1; rwa [i64s_len] at this
  obtain ⟨Z, hZ⟩ : ∃ Z : ByteArray, ⟨(Dc.digB l).toArray⟩ = Z := ⟨_, rfl⟩
  rw [hZ]
  have HZ := Lib.hid hZ
  have HLN := Lib.hid hln
  clear hZ hln
  go_enter Tryz.func61, Tryz.ntmps61
  go_wp2
  go_loopg [3, 4] n (fun f t i wx => ∃ (k : Nat) (T : ByteArray), t = .string T ∧ T = ⟨(Dc.digB (l.take k)).toArray⟩ ∧ i = .int .i64 (k : Int) ∧ k ≤ n ∧ n ≤ k + f ∧ Below w.heap.size w wx)
  case atStart => exact ⟨0, ⟨#[]⟩, rfl, by simp [Dc.digB], rfl, by omega, by omega, Below.refl _ _⟩
  case round =>
    obtain ⟨k, T, rfl, hT, rfl, hk, hf, hbx⟩ := hrel
    have hTs : T.size ≤ k := by rw [hT, str_size, Dc.digB_len, List.length_take]; omega
    have HT := Lib.hid hT
    clear hT
    by_cases hlt : k < n
    · have hin : (k : Int) < (n : Int) := by omega
      have hk0 : (0 : Int) ≤ (k : Int) := by omega
      obtain ⟨f, rfl⟩ : ∃ f, gk = f + 1 := ⟨gk - 1, by omega⟩
      obtain ⟨b, off, u, hA, hbB, hu, hcell⟩ := (hr.below hbx).at_ (k := k) hlt
      obtain ⟨x, hx, rfl⟩ := i64_at hu
      have hx10 : x < 10 := hd x (List.mem_of_getElem? hx)
      obtain ⟨S, hS⟩ : ∃ S : ByteArray, ⟨(Lib.itoa (x : Int)).toArray⟩ = S := ⟨_, rfl⟩
      have hSs : S.size ≤ 20 := by rw [← hS, str_size]; exact itoa_len _ (by omega) (by omega)
      have hnx : T ++ S = ⟨(Dc.digB (l.take (k + 1))).toArray⟩ := by rw [HT.out, ← hS, word_next hx hx10]
      have hadd := fun W => run_string_add_sum (P := Tryz.prog) (w := W) T S (by omega)
      have NB := Lib.hid (fun W => number_any (x : Int) W (by omega) (by omega))
      rw [hS] at NB
      have HNX := Lib.hid hnx
      have HA := Lib.hid hA
      clear hS hnx hu hx
      subst hA
      go_wp2_with fail
      refine (NB.out _).mono ?_
      rintro e w7 ⟨rfl, hb7⟩
      go_wp2_with fail
      go_roundg f
      case measure => omega
      case rel => exact ⟨k + 1, _, rfl, HNX.out, by go_num, by omega, by omega, hbx.trans (hb7.mono hbx.size)⟩
    · obtain rfl : k = n := by omega
      have hin : ¬ (k : Int) < (k : Int) := by omega
      have hfin : T = Z := by rw [HT.out, ← HZ.out, List.take_of_length_le (by rw [HLN.out]; exact Nat.le_refl _)]
      have HF := Lib.hid hfin
      clear hfin
      go_wp2
      go_ret
      exact ⟨by rw [← HF.out]; rfl, hbx⟩
end Go.Proofs.YtmgafnflkfbckaaGreatDoor

namespace Go.Proofs.YtmgafnflkfbckaaGreatDoor
open Go.RowKit Go.Lib

/-- A number of the reference, boxed. -/
theorem box_ref (g : Bool) (A : Option Addr) (n c : Nat) (e : Int) (w : World) : ∃ (w2 : World) (X : Nat), w.alloc (.cells #[.bool g, .slice A n c, .int .i64 e] 25) = w2 ∧ w.heap.size = X ∧ Below w.heap.size w w2 ∧ X < w2.heap.size ∧
    ∀ W, Below w2.heap.size w2 W → W.cell? ⟨X, 0, none⟩ = some (.bool g) ∧ W.cell? ⟨X, 1, none⟩ = some (.slice A n c) ∧ W.cell? ⟨X, 2, none⟩ = some (.int .i64 e) ∧ Below w2.heap.size w2 W := by
  refine ⟨_, _, rfl, rfl, (Below.refl _ _).alloc (Nat.le_refl _) _, by simp, fun W hW => ?_⟩
  have h1 := (hW.block w.heap.size (by simp)).trans (heap_alloc_new w _)
  exact ⟨at_block h1 0 _ rfl, at_block h1 1 _ rfl, at_block h1 2 _ rfl, hW⟩
set_option maxHeartbeats 1000000 in
set_option maxRecDepth 100000 in
theorem refcoef_any (g : Bool) (A : Option Addr) (n c : Nat) (l : List Nat) (e : Int) (w : World) (hr : Reads w w.heap.size A n (i64s l)) (hd : Dc.Digs l) (hn : n ≤ 1048576) :
    Calls Tryz.prog 37 #[.agg #[.bool g, .slice A n c, .int .i64 e]] w fun x w' => x = .returned (.string ⟨(Dc.coefB ⟨g, l, e⟩).toArray⟩) ∧ Below w.heap.size w w' := by
  have hln : l.length = n := by have := hr.1; rwa [i64s_len] at this
  by_cases h0 : n = 0
  · obtain rfl : l = [] := List.length_eq_zero_iff.1 (by omega)
    subst h0
    go_enter Tryz.func37, Tryz.ntmps37
    go_wp2
    go_ret
    exact ⟨rfl, (Below.refl _ _).alloc (Nat.le_refl _) _⟩
  · obtain ⟨S, hS⟩ : ∃ S : ByteArray, ⟨(Dc.sgnB g).toArray⟩ = S := ⟨_, rfl⟩
    obtain ⟨T, hT⟩ : ∃ T : ByteArray, ⟨(Dc.digB l).toArray⟩ = T := ⟨_, rfl⟩
    have hco : (⟨(Dc.coefB ⟨g, l, e⟩).toArray⟩ : ByteArray) = S ++ T := by
      have hne : l ≠ [] := by intro h; subst h; simp at hln; omega
      rw [← hS, ← hT, str_append, Dc.coefB, if_neg hne]
    have hSs : S.size ≤ 1 := by rw [← hS, str_size]; exact sgn_len g
    have hTs : T.size = n := by rw [← hT, str_size, Dc.digB_len, hln]
    rw [hco]
    have SG := Lib.hid (fun W => refsign_any g A n c e W)
    have DG := Lib.hid (fun W hW => word_any A n c l W hW hd hn)
    rw [hS] at SG
    rw [hT] at DG
    have hsum : S.size + T.size ≤ 1073741824 := by omega
    have hadd := fun W => run_string_add_sum (P := Tryz.prog) (w := W) S T (by omega)
    have h0f : ((n : Int) == 0) = false := by simp; omega
    obtain ⟨w2, X, hw2, hX, hb2, hX2, hcells⟩ := box_ref g A n c e w
    have hr2 := hr.on hb2
    have HC := Lib.hid hcells
    have HW2 := Lib.hid hw2
    have HXX := Lib.hid hX
    have HR2 := Lib.hid hr2
    have hd2 : Below w2.heap.size w2 w2 := Below.refl _ _
    obtain ⟨q0, q1, q2, _⟩ := hcells w2 hd2
    clear hS hT hco hcells hw2 hX hr hr2 hd hln
    go_enter Tryz.func37, Tryz.ntmps37
    go_wp2_with fail
    rw [HW2.out, HXX.out]
    go_region_held3 (fun W => W.cell? ⟨X, 0, none⟩ = some (.bool g) ∧ W.cell? ⟨X, 1, none⟩ = some (.slice A n c) ∧ W.cell? ⟨X, 2, none⟩ = some (.int .i64 e) ∧ Below w2.heap.size w2 W)
      ((refine HC.out _ ?_; first | assumption | exact (Below.refl _ _).drew))
      (first | (go_at_call 60; refine (SG.out _).mono ?_; rintro x w7 ⟨rfl, hb7⟩; have hb7' := n3_trans (by assumption) hb7) | (go_at_call 61; refine (DG.out _ (HR2.out.on (n3 (by assumption)))).mono ?_; rintro x w7 ⟨rfl, hb7⟩; have hb7' := n3_trans (by assumption) hb7))
    all_goals
      go_wp2_with fail
      go_ret
      exact ⟨rfl, hb2.trans (hb7'.mono hb2.size)⟩
set_option maxHeartbeats 1000000 in
set_option maxRecDepth 100000 in
theorem show_any (g : Bool) (A : Option Addr) (n c : Nat) (l : List Nat) (e : Int) (w : World) (hr : Reads w w.heap.size A n (i64s l)) (hd : Dc.Digs l) (hn : n ≤ 1048576) (he : -1000000 ≤ e ∧ e ≤ 1000000) :
    Calls Tryz.prog 19 #[.agg #[.bool g, .slice A n c, .int .i64 e]] w fun x w' => x = .returned (.string ⟨(Dc.showB ⟨g, l, e⟩).toArray⟩) ∧ Below w.heap.size w w' := by
  have hln : l.length = n := by have := hr.1; rwa [i64s_len] at this
  obtain ⟨C, hC⟩ : ∃ S : ByteArray, ⟨(Dc.coefB ⟨g, l, e⟩).toArray⟩ = S := ⟨_, rfl⟩
  obtain ⟨T, hT⟩ : ∃ T : ByteArray, ⟨(Lib.itoa e).toArray⟩ = T := ⟨_, rfl⟩
  have hsh : (⟨(Dc.showB ⟨g, l, e⟩).toArray⟩ : ByteArray) = C ++ ⟨#[101]⟩ ++ T := by
    rw [← hC, ← hT, show (⟨#[101]⟩ : ByteArray) = ⟨([101] : List UInt8).toArray⟩ from rfl, str_append, str_append, Dc.showB]
    simp
  have hCs : C.size ≤ n + 1 := by rw [← hC, str_size]; have := coef_len ⟨g, l, e⟩; rw [← hln]; exact this
  have hTs : T.size ≤ 20 := by rw [← hT, str_size]; exact itoa_len e (by omega) (by omega)
  rw [hsh]
  have CO := Lib.hid (fun W hW => refcoef_any g A n c l e W hW hd hn)
  have IT := Lib.hid (fun W => number_any e W (by omega) (by omega))
  rw [hC] at CO
  rw [hT] at IT
  have hadd := fun W => run_string_add_sum (P := Tryz.prog) (w := W) C ⟨#[101]⟩ (by rw [show (ByteArray.mk #[101]).size = 1 from rfl]; omega)
  have hadd2 := fun W => run_string_add_sum (P := Tryz.prog) (w := W) (C ++ ⟨#[101]⟩) T (by rw [ByteArray.size_append, show (ByteArray.mk #[101]).size = 1 from rfl]; omega)
  obtain ⟨w2, X, hw2, hX, hb2, hX2, hcells⟩ := box_ref g A n c e w
  have hr2 := hr.on hb2
  have HC := Lib.hid hcells
  have HW2 := Lib.hid hw2
  have HXX := Lib.hid hX
  have HR2 := Lib.hid hr2
  have hd2 : Below w2.heap.size w2 w2 := Below.refl _ _
  clear hC hT hsh hcells hw2 hX hr hr2 hd hln
  go_enter Tryz.func19, Tryz.ntmps19
  go_wp2_with fail
  rw [HW2.out, HXX.out]
  go_region_held3 (fun W => W.cell? ⟨X, 0, none⟩ = some (.bool g) ∧ W.cell? ⟨X, 1, none⟩ = some (.slice A n c) ∧ W.cell? ⟨X, 2, none⟩ = some (.int .i64 e) ∧ Below w2.heap.size w2 W)
    ((refine HC.out _ ?_; first | assumption | exact (Below.refl _ _).drew))
    (first | (go_at_call 37; refine (CO.out _ (HR2.out.on (n3 (by assumption)))).mono ?_; rintro x w7 ⟨rfl, hb7⟩; have hb7' := n3_trans (by assumption) hb7) | (go_at_call 38; refine (IT.out _).mono ?_; rintro x w7 ⟨rfl, hb7⟩; have hb7' := n3_trans (by assumption) hb7))
  all_goals
    go_wp2_with fail
    go_ret
    exact ⟨rfl, hb2.trans (hb7'.mono hb2.size)⟩

end Go.Proofs.YtmgafnflkfbckaaGreatDoor
