/- The contract of read. -/
import Derived.Test.YtmgafnflkfbckaaGreatDoorWalkF
namespace Go.Proofs.YtmgafnflkfbckaaGreatDoor
open Go.RowKit Go.Lib

namespace Dc
theorem readP_noe {l : List UInt8} (h : indexByte l 101 = -1) : readP l = none := by unfold readP; simp [h]
theorem readP_noint {l : List UInt8} {k : Nat} (h : indexByte l 101 = (k : Int)) (hi : intB (l.take k) = false) : readP l = none := by
  unfold readP
  simp only [h, Int.toNat_natCast, hi]
  rw [if_neg (by omega), if_pos trivial]
theorem readP_long {l : List UInt8} {k : Nat} (h : indexByte l 101 = (k : Int)) (hl : 6 < (l.length : Int) - (k : Int)) : readP l = none := by
  unfold readP
  simp only [h, Int.toNat_natCast]
  rw [if_neg (by omega)]
  rw [if_pos hl]
  split <;> rfl
theorem readP_noatoi {l : List UInt8} {k : Nat} (h : indexByte l 101 = (k : Int)) (ha : ∀ v, atoiAll (l.drop (k + 1)) ≠ .ok v) : readP l = none := by
  unfold readP
  simp only [h, Int.toNat_natCast]
  rw [if_neg (by omega)]
  cases hh : atoiAll (l.drop (k + 1)) with
  | ok e => exact absurd hh (ha e)
  | range => simp
  | _ => simp
theorem readP_lim {l : List UInt8} {k : Nat} {e : Int} {x : D} (h : indexByte l 101 = (k : Int)) (hi : intB (l.take k) = true) (hl : ¬ 6 < (l.length : Int) - (k : Int)) (ha : atoiAll (l.drop (k + 1)) = .ok e)
    (hx : norm (l.head? == some 45) (vals (unsign (l.take k))) e = x) : readP l = if limit x = 0 ∧ showB x = l then some x else none := by
  unfold readP
  simp only [h, Int.toNat_natCast, hi]
  rw [if_neg (by omega), if_neg (by simp), if_neg hl, ha]
  simp only [hx]
theorem parse_bound : ∀ (l : List UInt8) (acc u : Nat), parseUint10 acc l = .ok u → u < (acc + 1) * 10 ^ l.length
  | [], acc, u, h => by
    simp only [parseUint10] at h
    injection h with h
    subst h; simp
  | c :: r, acc, u, h => by
    simp only [parseUint10] at h
    split at h
    · split at h
      · cases h
      · split at h
        · cases h
        · have := parse_bound r _ u h
          rw [List.length_cons, Nat.pow_succ]
          have h2 : (acc * 10 + (c.toNat - 48) + 1) * 10 ^ r.length ≤ ((acc + 1) * 10) * 10 ^ r.length := Nat.mul_le_mul_right _ (by omega)
          rw [Nat.mul_comm (10 ^ r.length) 10, ← Nat.mul_assoc]
          omega
    · cases h
theorem atoi_bound {l : List UInt8} {v : Int} (hl : l.length ≤ 5) (h : atoiAll l = .ok v) : -100000 ≤ v ∧ v ≤ 100000 := by
  have key : ∀ (r : List UInt8) (u : Nat), r.length ≤ 5 → parseMag r = .ok u → u < 100000 := by
    intro r u hr hp
    rw [parseMag] at hp
    split at hp
    · cases hp
    · have h1 := parse_bound r 0 u hp
      have h2 := Nat.pow_le_pow_right (n := 10) (by decide) hr
      have h3 : (10 : Nat) ^ 5 = 100000 := by decide
      omega
  cases l with
  | nil => cases h
  | cons c r =>
    simp only [List.length_cons] at hl
    simp only [atoiAll] at h
    split at h
    · cases h
    · cases h
    · rename_i u hu
      have hu2 : u < 100000 := by
        split at hu
        · exact key r u (by omega) hu
        · exact key (c :: r) u (by simp; omega) hu
      split at h
      · cases h
      · split at h
        · cases h
        · injection h with h
          split at h <;> omega
theorem norm_len (g : Bool) (l : List Nat) (e : Int) : (norm g l e).c.length ≤ l.length := by
  rw [norm]
  split
  · simp
  · show (core (lead l)).length ≤ _
    rw [core_len]; have := lead_len l; omega
theorem norm_e (g : Bool) (l : List Nat) (e : Int) : (norm g l e).e = 0 ∨ (e ≤ (norm g l e).e ∧ (norm g l e).e ≤ e + l.length) := by
  rw [norm]
  split
  · exact Or.inl rfl
  · right
    show e ≤ e + (trail (lead l) : Int) ∧ e + (trail (lead l) : Int) ≤ e + l.length
    have := trail_le (lead l); have := lead_len l; omega
theorem intB_all {l : List UInt8} (h : intB l = true) : (unsign l).all isDig = true := by
  simp only [intB, Bool.and_eq_true] at h
  obtain ⟨⟨⟨h0, _⟩, _⟩, h⟩ := h
  rw [unsign]
  by_cases h45 : l.head? = some 45
  · rw [if_pos h45]
    by_cases hl : 1 < l.length
    · rw [intTail, if_pos ⟨hl, h45⟩] at h; exact h
    · cases l with
      | nil => cases h45
      | cons a l =>
        have : l = [] := by
          cases l with
          | nil => rfl
          | cons b l => simp at hl
        subst this; rfl
  · rw [if_neg h45]
    rw [intTail, if_neg (by simp [h45])] at h; exact h
theorem trim_unsign (l : List UInt8) : trimPrefix l [45] = unsign l := by
  rw [unsign, trimPrefix, hasPrefix]
  cases l with
  | nil => rfl
  | cons b l =>
    by_cases h : b = 45
    · subst h; simp
    · have h2 : ¬ (45 : UInt8) = b := fun e => h e.symm
      simp [List.isPrefixOf, h, h2]
end Dc

theorem s3_set {W : World} {G X j : Nat} {a b c v : Value} (h : W.cell? ⟨G, 0, none⟩ = some a ∧ W.cell? ⟨G, 1, none⟩ = some b ∧ W.cell? ⟨G, 2, none⟩ = some c) (hne : G ≠ X) :
    (W.setCell ⟨X, j, none⟩ v).cell? ⟨G, 0, none⟩ = some a ∧ (W.setCell ⟨X, j, none⟩ v).cell? ⟨G, 1, none⟩ = some b ∧ (W.setCell ⟨X, j, none⟩ v).cell? ⟨G, 2, none⟩ = some c :=
  ⟨(World.cell?_setCell_other W _ _ _ (by intro e; cases e; exact hne rfl)).trans h.1, (World.cell?_setCell_other W _ _ _ (by intro e; cases e; exact hne rfl)).trans h.2.1, (World.cell?_setCell_other W _ _ _ (by intro e; cases e; exact hne rfl)).trans h.2.2⟩
theorem ba_eq {T s : ByteArray} (h : T = s) : (T == s) = true := by
  subst h
  show (T.data == T.data) = true
  simp
theorem ba_ne {T s : ByteArray} (h : ¬ T = s) : (T == s) = false := by
  have : (T.data == s.data) = false := beq_eq_false_iff_ne.2 (fun e => h (ByteArray.ext e))
  exact this
theorem b_trans {a W W' : World} (h : Below a.heap.size a W) (hb : Below W.heap.size W W') : Below a.heap.size a W' := h.trans (hb.mono h.size)
theorem alloc_kept {w w2 : World} {o : Obj} (h : Below (w.alloc o).drew.heap.size (w.alloc o).drew w2) : w2.heap[w.heap.size]? = some o := by
  have h1 : w.heap.size < (w.alloc o).drew.heap.size := by show w.heap.size < (w.alloc o).heap.size; simp
  rw [h.block w.heap.size h1]
  exact heap_alloc_new w o
theorem alloc_kept' {w w2 : World} {o : Obj} (h : Below (w.alloc o).heap.size (w.alloc o) w2) : w2.heap[w.heap.size]? = some o := by
  rw [h.block w.heap.size (by simp)]
  exact heap_alloc_new w o
theorem b_drew {a W : World} (h : Below a.heap.size a W) : Below a.heap.size a W.drew := h.drew
theorem b_alloc {a W : World} (h : Below a.heap.size a W) (o : Obj) : Below a.heap.size a (W.alloc o) := h.alloc h.size o
theorem b_set {a W : World} {X j : Nat} (h : Below a.heap.size a W) (hX : a.heap.size ≤ X) (v : Value) : Below a.heap.size a (W.setCell ⟨X, j, none⟩ v) := h.setCell (p := ⟨X, j, none⟩) hX v
theorem Reads.beside {w w' : World} {B : Nat} {A A' : Option Addr} {n : Nat} {l : List Nat} {X : Nat} {t : TypeId} {a : Bool} {m m' : Nat} {c : Int} (h : Reads w B A n (u8s l)) (hX : w.heap[X]? = some (.cells #[.bool a, .slice A' m m', .int .i64 c] t)) (hk : ∀ k, k ≠ X → w'.heap[k]? = w.heap[k]?) :
    Reads w' B A n (u8s l) := by
  refine ⟨h.1, fun hn => ?_⟩
  obtain ⟨g, off, rfl, hb, hcell⟩ := h.2 hn
  have hne : g ≠ X := by
    rintro rfl
    have hlen := h.1
    cases l with
    | nil => simp [u8s] at hlen; omega
    | cons r rs =>
      have h0 := hcell 0 (.int .u8 r) rfl
      rw [World.cell?, hX] at h0
      match off, h0 with
      | 0, h0 => simp at h0
      | 1, h0 => simp at h0
      | 2, h0 => simp at h0
      | k + 3, h0 => simp at h0
  exact ⟨g, off, rfl, hb, fun j u hj => by rw [← hcell j u hj]; exact World.cell?_of_block (hk g hne)⟩
/-- How read ends: what was read, and whether it is a canonical text. -/
def ReadEnd (w : World) (x : Ending) (r : Option Dc.D) : Prop := ∃ g A n e, x = .returned (.tuple #[.agg #[.bool g, .slice A n n, .int .i64 e], .bool r.isSome]) ∧
  ∀ y, r = some y → g = y.neg ∧ n = y.c.length ∧ e = y.e ∧ Reads w w.heap.size A n (u8s y.c)
theorem ReadEnd.bad {w : World} {x : Ending} {r : Option Dc.D} (hr : r = none) (hx : x = .returned (.tuple #[.agg #[.bool false, .slice none 0 0, .int .i64 0], .bool false])) : ReadEnd w x r := by
  subst hr
  exact ⟨false, none, 0, 0, hx, fun y h => by cases h⟩

set_option maxHeartbeats 1000000 in
set_option maxRecDepth 100000 in
theorem read_any (s : ByteArray) (w : World) (hs : s.size ≤ 536870912) (hL : Laid w) : Calls Tryz.prog 23 #[.string s] w fun x w' => ReadEnd w' x (Dc.readP s.data.toList) ∧ Below w.heap.size w w' := by
  obtain ⟨X, hX⟩ : ∃ X, w.heap.size = X := ⟨_, rfl⟩
  obtain ⟨w1, hw1⟩ : ∃ w1 : World, w.alloc (.cells #[.bool false, .slice none 0 0, .int .i64 0] 46) = w1 := ⟨_, rfl⟩
  have hb1 : Below X w w1 := by rw [← hw1, ← hX]; exact (Below.refl _ _).alloc (Nat.le_refl _) _
  have hX1 : w1.heap[X]? = some (.cells #[.bool false, .slice none 0 0, .int .i64 0] 46 (0, 0)) := by rw [← hw1, ← hX]; exact heap_alloc_new w _
  have hL1 : Laid w1 := hL.on (by rw [hX]; exact hb1)
  have x0 := at_block hX1 0 _ rfl
  have x1 := at_block hX1 1 _ rfl
  have x2 := at_block hX1 2 _ rfl
  have f0 := free_block hX1 0
  have f1 := free_block hX1 1
  have f2 := free_block hX1 2
  have hlt1 := lt_of_block hX1
  have HX1 := Lib.hid hX1
  have HW1 := Lib.hid hw1
  have HX := Lib.hid hX
  have HL1 := Lib.hid hL1
  have hd1 : Below w1.heap.size w1 w1 := Below.refl _ _
  have IB := Lib.hid (fun W => Tryz.strings_IndexByte s 101 W)
  have hIB : (101 : Int).toNat.toUInt8 = 101 := rfl
  rw [hIB] at IB
  clear hX1 hw1 hL hL1 hIB
  rcases Dc.index_is s.data.toList 101 with ⟨hk, _⟩ | ⟨k, hk, hkl, _, _⟩
  · have HP := Lib.hid (Dc.readP_noe hk)
    rw [hk] at IB
    clear hk
    go_enter Tryz.func23, Tryz.ntmps23
    go_wp2_with fail
    rw [HW1.out]
    refine (IB.out _).mono ?_
    rintro x w7 ⟨rfl, rfl⟩
    go_wp2_with fail
    refine bodyPost_ret (v := .tuple #[.agg #[.bool false, .slice none 0 0, .int .i64 0], .bool false]) (by simp [results, Tryz.results23, go_sem, x0, x1, x2]) rfl ?_
    refine ⟨ReadEnd.bad HP.out rfl, ?_⟩
    try rw [HX.out]
    exact ((hb1.setCell (p := ⟨X, 0, none⟩) (Nat.le_refl _) _).setCell (p := ⟨X, 1, none⟩) (Nat.le_refl _) _).setCell (p := ⟨X, 2, none⟩) (Nat.le_refl _) _
  · rw [data_len] at hkl
    rw [hk] at IB
    have hk0 : (0 : Int) ≤ (k : Int) := by omega
    have hkn : ¬ (k : Int) < 0 := by omega
    have hkle : (k : Int) ≤ (s.size : Int) := by omega
    obtain ⟨P, hP⟩ : ∃ P, s.extract 0 k = P := ⟨_, rfl⟩
    have hPd : P.data.toList = s.data.toList.take k := by rw [← hP, data_to]
    have hPs : P.size ≤ s.size := by rw [← hP, ByteArray.size_extract]; omega
    obtain ⟨b, hb⟩ : ∃ b, Dc.intB P.data.toList = b := ⟨_, rfl⟩
    have IV := Lib.hid (fun W => intvalid_any P W (by omega))
    rw [hb] at IV
    rw [hPd] at hb
    have HPP := Lib.hid hP
    have HPD := Lib.hid hPd
    have HK := Lib.hid hk
    cases b with
    | false =>
      have HP := Lib.hid (Dc.readP_noint hk hb)
      clear hk hb hP hPd
      go_enter Tryz.func23, Tryz.ntmps23
      go_wp2_with fail
      rw [HW1.out]
      refine (IB.out _).mono ?_
      rintro x w7 ⟨rfl, rfl⟩
      go_wp2_with fail
      rw [HPP.out]
      refine (IV.out _).mono ?_
      rintro x w8 ⟨rfl, hb8⟩
      have q := (hb8.block X hlt1).trans HX1.out
      clear x0 x1 x2 f0 f1 f2
      have x0 := at_block q 0 _ rfl
      have x1 := at_block q 1 _ rfl
      have x2 := at_block q 2 _ rfl
      have f0 := free_block q 0
      have f1 := free_block q 1
      have f2 := free_block q 2
      have HQ := Lib.hid q
      clear q
      go_wp2_with fail
      refine bodyPost_ret (v := .tuple #[.agg #[.bool false, .slice none 0 0, .int .i64 0], .bool false]) (by simp [results, Tryz.results23, go_sem, x0, x1, x2]) rfl ?_
      refine ⟨ReadEnd.bad HP.out rfl, ?_⟩
      try rw [HX.out]
      exact (((hb1.trans (hb8.mono (by omega))).setCell (p := ⟨X, 0, none⟩) (Nat.le_refl _) _).setCell (p := ⟨X, 1, none⟩) (Nat.le_refl _) _).setCell (p := ⟨X, 2, none⟩) (Nat.le_refl _) _
    | true =>
      by_cases hlong : 6 < (s.size : Int) - (k : Int)
      · have HP := Lib.hid (Dc.readP_long hk (by rw [data_len]; exact hlong))
        have hwl : IntKind.i64.wrap ((s.size : Int) - (k : Int)) = (s.size : Int) - (k : Int) := IntWalk.i64_in _ (by omega)
        clear hk hb hP hPd
        go_enter Tryz.func23, Tryz.ntmps23
        go_wp2_with fail
        rw [HW1.out]
        refine (IB.out _).mono ?_
        rintro x w7 ⟨rfl, rfl⟩
        go_wp2_with fail
        rw [HPP.out]
        refine (IV.out _).mono ?_
        rintro x w8 ⟨rfl, hb8⟩
        have q := (hb8.block X hlt1).trans HX1.out
        clear x0 x1 x2 f0 f1 f2
        have x0 := at_block q 0 _ rfl
        have f0 := free_block q 0
        have x1 := at_block q 1 _ rfl
        have f1 := free_block q 1
        have x2 := at_block q 2 _ rfl
        have f2 := free_block q 2
        have HQ := Lib.hid q
        clear q
        go_wp2_with fail
        refine bodyPost_ret (v := .tuple #[.agg #[.bool false, .slice none 0 0, .int .i64 0], .bool false]) (by simp [results, Tryz.results23, go_sem, x0, x1, x2]) rfl ?_
        refine ⟨ReadEnd.bad HP.out rfl, ?_⟩
        try rw [HX.out]
        exact (((hb1.trans (hb8.mono (by omega))).setCell (p := ⟨X, 0, none⟩) (Nat.le_refl _) _).setCell (p := ⟨X, 1, none⟩) (Nat.le_refl _) _).setCell (p := ⟨X, 2, none⟩) (Nat.le_refl _) _
      · have hwl : IntKind.i64.wrap ((s.size : Int) - (k : Int)) = (s.size : Int) - (k : Int) := IntWalk.i64_in _ (by omega)
        obtain ⟨R, hR⟩ : ∃ R, s.extract (k + 1) s.size = R := ⟨_, rfl⟩
        have hRd : R.data.toList = s.data.toList.drop (k + 1) := by rw [← hR, data_from]
        have hRs : R.size ≤ 5 := by rw [← hR, ByteArray.size_extract]; omega
        have hk1 : (k : Int) + 1 ≤ (s.size : Int) := by omega
        have hk10 : (0 : Int) ≤ (k : Int) + 1 := by omega
        have HR := Lib.hid hR
        have HRD := Lib.hid hRd
        have HBT := Lib.hid hb
        by_cases hat : ∀ v, atoiAll R.data.toList ≠ .ok v
        · have HP := Lib.hid (Dc.readP_noatoi hk (by rw [← hRd]; exact hat))
          have AT := Lib.hid (fun W hW => atoi_bad R (by omega) hat W hW)
          clear hk hb hP hPd hR hRd hat
          go_enter Tryz.func23, Tryz.ntmps23
          go_wp2_with fail
          rw [HW1.out]
          refine (IB.out _).mono ?_
          rintro x w7 ⟨rfl, rfl⟩
          go_wp2_with fail
          rw [HPP.out]
          refine (IV.out _).mono ?_
          rintro x w8 ⟨rfl, hb8⟩
          go_wp2_with fail
          rw [HR.out]
          refine (AT.out _ (HL1.out.on hb8)).mono ?_
          rintro x w9 ⟨v, N, rfl, hb9⟩
          have hd9 := hb8.trans (hb9.mono hb8.size)
          have q := (hd9.block X hlt1).trans HX1.out
          clear x0 x1 x2 f0 f1 f2
          have x0 := at_block q 0 _ rfl
          have f0 := free_block q 0
          have x1 := at_block q 1 _ rfl
          have f1 := free_block q 1
          have x2 := at_block q 2 _ rfl
          have f2 := free_block q 2
          have HQ := Lib.hid q
          clear q
          go_wp2_with fail
          refine bodyPost_ret (v := .tuple #[.agg #[.bool false, .slice none 0 0, .int .i64 0], .bool false]) (by simp [results, Tryz.results23, go_sem, x0, x1, x2]) rfl ?_
          refine ⟨ReadEnd.bad HP.out rfl, ?_⟩
          try rw [HX.out]
          exact (((hb1.trans (hd9.mono (by omega))).setCell (p := ⟨X, 0, none⟩) (Nat.le_refl _) _).setCell (p := ⟨X, 1, none⟩) (Nat.le_refl _) _).setCell (p := ⟨X, 2, none⟩) (Nat.le_refl _) _
        · obtain ⟨e, he⟩ : ∃ e, atoiAll R.data.toList = .ok e := by
            cases ha : atoiAll R.data.toList with
            | ok e => exact ⟨e, rfl⟩
            | range => exact absurd (fun v h => by rw [ha] at h; cases h) hat
            | _ => exact absurd (fun v h => by rw [ha] at h; cases h) hat
          have heb := Dc.atoi_bound (by rw [data_len]; exact hRs) he
          have AT := Lib.hid (fun W => atoi_ok R (by omega) e he W)
          have HE := Lib.hid he
          obtain ⟨C, hC⟩ : ∃ C : ByteArray, ⟨(Lib.trimPrefix P.data.toList [45]).toArray⟩ = C := ⟨_, rfl⟩
          have hCd : C.data.toList = Dc.unsign (s.data.toList.take k) := by rw [← hC]; simp [Dc.trim_unsign, hPd]
          have TP := Lib.hid (fun W => Tryz.strings_TrimPrefix P ⟨#[45]⟩ W)
          have h45l : (ByteArray.mk #[45]).data.toList = [45] := rfl
          rw [h45l, hC] at TP
          have hCs : C.size ≤ s.size := by
            rw [← data_len, hCd, Dc.unsign]
            split
            · rw [List.length_drop, List.length_take, data_len]; omega
            · rw [List.length_take, data_len]; omega
          have hCall : C.data.toList.all Dc.isDig = true := by rw [hCd]; exact Dc.intB_all hb
          have BY := Lib.hid (fun W => bytes_any C W hCall (by omega))
          have HCD := Lib.hid hCd
          have hdg : Dc.Digs (Dc.vals C.data.toList) := Dc.vals_digs hCall
          have hvl : (Dc.vals C.data.toList).length = C.size := by rw [Dc.vals, List.length_map, data_len]
          obtain ⟨gn, hgn⟩ : ∃ gn, (s.data.toList.head? == some 45) = gn := ⟨_, rfl⟩
          obtain ⟨y, hy⟩ : ∃ y, Dc.norm gn (Dc.vals C.data.toList) e = y := ⟨_, rfl⟩
          have hyn : Dc.Normal y := by rw [← hy]; exact Dc.norm_normal hdg
          have hyl : y.c.length ≤ C.size := by rw [← hy, ← hvl]; exact Dc.norm_len _ _ _
          have hye : -4611686018427387904 ≤ y.e ∧ y.e ≤ 4611686018427387904 := by
            have := Dc.norm_e gn (Dc.vals C.data.toList) e
            rw [hy, hvl] at this
            omega
          have NO := Lib.hid (fun A W hW => norm_any gn A C.size C.size (Dc.vals C.data.toList) e W hW (Nat.le_refl _) (by omega) (by omega))
          rw [hy] at NO
          have HP := Lib.hid (Dc.readP_lim hk hb (by rw [data_len]; exact hlong) (by rw [← hRd]; exact he) (by rw [hgn, ← hCd, hy]))
          have hpos : (0 : Int) < (s.size : Int) := by omega
          obtain ⟨d, hd⟩ : ∃ d : UInt8, s[0]'(by omega) = d := ⟨_, rfl⟩
          have hd45 : ((d.toNat : Int) == 45) = gn := by
            rw [← hgn, head_at (byte_at (by omega) hd)]
            by_cases h : d = 45
            · subst h; rfl
            · rw [byte_ne (c := 45) (n := 45) rfl h]; simp [h]
          have HY := Lib.hid hy
          have HGN := Lib.hid hgn
          clear hk hb hP hPd hR hRd hat he hC hCd hCall hdg hvl hgn hy h45l
          go_enter Tryz.func23, Tryz.ntmps23
          go_wp2_with fail
          rw [HW1.out]
          refine (IB.out _).mono ?_
          rintro x w7 ⟨rfl, rfl⟩
          go_wp2_with fail
          rw [HPP.out]
          refine (IV.out _).mono ?_
          rintro x w8 ⟨rfl, hb8⟩
          go_wp2_with fail
          rw [HR.out]
          refine (AT.out _).mono ?_
          rintro x w9 ⟨rfl, hb9⟩
          have hd9 := hb8.trans (hb9.mono hb8.size)
          go_wp2_with fail
          rw [HPP.out]
          refine (TP.out _).mono ?_
          rintro x w10 ⟨rfl, rfl⟩
          go_upto_region 8 with fail
          have hd10 : Below w7.heap.size w7 w10 := hd9
          go_cut [8] (fun s8 wx => ∃ (G : Nat) (A : Option Addr), s8 = .pointer (some ⟨G, 0, none⟩) ∧ w7.heap.size ≤ G ∧ wx.heap[G]? = some (.cells #[.bool y.neg, .slice A y.c.length y.c.length, .int .i64 y.e] 46 (0, 0)) ∧ Reads wx wx.heap.size A y.c.length (u8s y.c) ∧ Below w7.heap.size w7 wx)
          case first =>
            go_region_held3 (fun W => Below w10.heap.size w10 W)
              (with_reducible first | assumption | ((repeat' (first | assumption | exact Below.refl _ _ | refine b_drew ?_ | refine b_alloc ?_ _ | refine b_set ?_ ?_ _ | exact Nat.le_refl _ | exact Below.size (by assumption))); done))
              (first | (go_at_call 45; refine (BY.out _).mono ?_; rintro x w11 ⟨Gb, rfl, hRb, hb11⟩; have hS11 := b_trans (by assumption) hb11; try (have q11 : w11.heap[w10.heap.size]? = some (.cells #[.bool false, .slice none 0 0, .int .i64 0] 46 (0, 0)) := (by first | exact alloc_kept hb11 | exact alloc_kept' hb11))) | (go_at_call 31; refine (NO.out _ _ (hRb.on (by first | exact Below.refl _ _ | exact (Below.refl _ _).drew | exact ((Below.refl _ _).alloc (Nat.le_refl _) _) | exact ((Below.refl _ _).alloc (Nat.le_refl _) _).drew))).mono ?_; rintro x w12 ⟨v, rfl, ⟨A, rfl, hRn⟩, hb12⟩; have hS12 := b_trans (by assumption) hb12; first | (have q : w12.heap[w11.heap.size]? = some (.cells #[.bool false, .slice none 0 0, .int .i64 0] 46 (0, 0)) := (by first | exact alloc_kept hb12 | exact alloc_kept' hb12); have q0 := at_block q 0 _ rfl; have q1 := at_block q 1 _ rfl; have q2 := at_block q 2 _ rfl; have g0 := free_block q 0; have g1 := free_block q 1; have g2 := free_block q 2; have HQQ := Lib.hid q; clear q) | (have q : w12.heap[w10.heap.size]? = some (.cells #[.bool false, .slice none 0 0, .int .i64 0] 46 (0, 0)) := (hb12.block _ (lt_of_block q11)).trans q11; have q0 := at_block q 0 _ rfl; have q1 := at_block q 1 _ rfl; have q2 := at_block q 2 _ rfl; have g0 := free_block q 0; have g1 := free_block q 1; have g2 := free_block q 2; have HQQ := Lib.hid q; clear q) | skip))
            all_goals first
              | (have hQ := HQQ.out
                 go_wp2_with fail
                 go_meet
                 refine ⟨_, A, rfl, (by first | exact hd10.size | exact Nat.le_trans hd10.size hS11.size), block_set (block_set (block_set hQ 0 _) 1 _) 2 _, ?_, ?_⟩
                 · refine Reads.more (Reads.beside hRn hQ fun k hk => ?_) (by simp [World.setCell])
                   rw [Below.heap_setCell _ _ _ _ hk, Below.heap_setCell _ _ _ _ hk, Below.heap_setCell _ _ _ _ hk]
                 · exact hd10.trans ((b_set (b_set (b_set hS12 (by first | exact Nat.le_refl _ | exact hS11.size) _) (by first | exact Nat.le_refl _ | exact hS11.size) _) (by first | exact Nat.le_refl _ | exact hS11.size) _).mono hd10.size))
              | (go_wp2_with fail
                 go_meet
                 exact ⟨w12.heap.size, A, rfl, Nat.le_trans hd10.size hS12.size, heap_alloc_new w12 _, (hRn.alloc (Nat.le_refl _) _).more (by simp), hd10.trans ((b_alloc hS12 _).mono hd10.size)⟩)
          case rest =>
            obtain ⟨G, A, rfl, hGle, hGc, hRc, hbc⟩ := hcut
            have hGX : G ≠ X := by omega
            have hXc := (hbc.block X hlt1).trans HX1.out
            have hXlt := lt_of_block hXc
            have hGlt := lt_of_block hGc
            have hcells : ∀ W, Below wc.heap.size wc W → W.cell? ⟨G, 0, none⟩ = some (.bool y.neg) ∧ W.cell? ⟨G, 1, none⟩ = some (.slice A y.c.length y.c.length) ∧ W.cell? ⟨G, 2, none⟩ = some (.int .i64 y.e) := fun W hW => by
              have h1 := (hW.block G hGlt).trans hGc
              exact ⟨at_block h1 0 _ rfl, at_block h1 1 _ rfl, at_block h1 2 _ rfl⟩
            obtain ⟨m, hm⟩ : ∃ m, Dc.limit y = m := ⟨_, rfl⟩
            obtain ⟨T, hT⟩ : ∃ T : ByteArray, ⟨(Dc.showB y).toArray⟩ = T := ⟨_, rfl⟩
            have LI := Lib.hid (fun W => limit_any y.neg A y.c.length y.c.length y.e W)
            have TX := Lib.hid (fun W hW hLW => text_any y.neg A y.c.length y.c y.e W hW hyn.1 (by omega) hye hLW)
            have hm' := hm
            rw [limN_eq, hm] at LI
            have hyy : (⟨y.neg, y.c, y.e⟩ : Dc.D) = y := by cases y; rfl
            rw [hyy, hT] at TX
            have HLC := Lib.hid (HL1.out.on hbc)
            have hPP := HP.out
            rw [hm] at hPP
            have hTl : Dc.showB y = s.data.toList ↔ T = s := by
              constructor
              · intro h; rw [← hT, h]
              · intro h; rw [← h, ← hT]
            have HC := Lib.hid hcells
            have HXC := Lib.hid hXc
            have HRC := Lib.hid hRc
            have HYN := Lib.hid hyn
            obtain ⟨gy, hgy⟩ : ∃ z, y.neg = z := ⟨_, rfl⟩
            obtain ⟨ny, hny⟩ : ∃ z, y.c.length = z := ⟨_, rfl⟩
            obtain ⟨ey, hey⟩ : ∃ z, y.e = z := ⟨_, rfl⟩
            rw [hgy, hny, hey] at HC
            rw [hgy, hny, hey] at LI
            rw [hgy, hny, hey] at TX
            rw [hny] at HRC
            obtain ⟨p0, p1, p2⟩ := HC.out wc (Below.refl _ _)
            have hdc : Below wc.heap.size wc wc := Below.refl _ _
            have HGY := Lib.hid hgy
            have HNY := Lib.hid hny
            have HEY := Lib.hid hey
            clear hcells hXc hRc hm hT hyn hGc hyl hgy hny hey hyy hye x0 x1 x2 f0 f1 f2
            have hm3 : m = 0 ∨ m = 2 ∨ m = 6 := by
              rw [← hm', Dc.limit]
              split
              · exact Or.inr (Or.inr rfl)
              · split
                · exact Or.inr (Or.inl rfl)
                · exact Or.inl rfl
            clear hm'
            by_cases h0 : m = 0
            · subst h0
              by_cases hts : T = s
              · rw [if_pos ⟨rfl, hTl.2 hts⟩] at hPP
                have hbe : (T == s) = true := ba_eq hts
                have htl : T.toList = s.toList := by rw [hts]
                have HPP2 := Lib.hid hPP
                clear hPP hTl hts
                go_upto_region 9 with fail
                go_region_held3 (fun W => W.cell? ⟨G, 0, none⟩ = some (.bool gy) ∧ W.cell? ⟨G, 1, none⟩ = some (.slice A ny ny) ∧ W.cell? ⟨G, 2, none⟩ = some (.int .i64 ey))
                  (first | (refine HC.out _ ?_; first | assumption | exact Below.refl _ _ | exact (Below.refl _ _).drew | exact b_drew (by assumption)) | (refine s3_set ?_ hGX; refine s3_set ?_ hGX; refine s3_set ?_ hGX; first | assumption | (refine HC.out _ ?_; first | assumption | exact b_drew (by assumption))))
                  (first | (go_at_call 46; refine (LI.out _).mono ?_; rintro x w13 ⟨rfl, hb13⟩; have hb13' := b_trans (a := wc) (by first | assumption | exact Below.refl _ _ | exact (Below.refl _ _).drew | exact b_drew (by assumption)) hb13; have q := (hb13'.block X hXlt).trans HXC.out; have x0 := at_block q 0 _ rfl; have x1 := at_block q 1 _ rfl; have x2 := at_block q 2 _ rfl; have f0 := free_block q 0; have f1 := free_block q 1; have f2 := free_block q 2; have HQ := Lib.hid q; clear q) | (go_at_call 30; refine (TX.out _ (HRC.out.on (by first | assumption | exact Below.refl _ _ | exact (Below.refl _ _).drew | exact b_drew (by assumption))) (HLC.out.on (by first | assumption | exact Below.refl _ _ | exact (Below.refl _ _).drew | exact b_drew (by assumption)))).mono ?_; rintro x w13 ⟨rfl, hb13⟩; have hb13' := b_trans (a := wc) (by first | assumption | exact Below.refl _ _ | exact (Below.refl _ _).drew | exact b_drew (by assumption)) hb13; have q := (hb13'.block X hXlt).trans HXC.out; have x0 := at_block q 0 _ rfl; have x1 := at_block q 1 _ rfl; have x2 := at_block q 2 _ rfl; have f0 := free_block q 0; have f1 := free_block q 1; have f2 := free_block q 2; have HQ := Lib.hid q; clear q))
                all_goals
                  go_wp2_with fail
                  refine bodyPost_ret (v := .tuple #[.agg #[.bool gy, .slice A ny ny, .int .i64 ey], .bool true]) (by first | (simp [results, Tryz.results23, go_sem, x0, x1, x2]; done) | (simp [results, Tryz.results23, go_sem, x0, x1, x2, htl]; done)) rfl ?_
                  refine ⟨?_, ?_⟩
                  · rw [HPP2.out]
                    refine ⟨gy, A, ny, ey, rfl, fun y' hy' => ?_⟩
                    cases hy'
                    refine ⟨HGY.out.symm, HNY.out.symm, HEY.out.symm, ?_⟩
                    refine Reads.more (Reads.beside (HRC.out.on hb13') HQ.out fun k hk => ?_) (by simp [World.setCell])
                    rw [Below.heap_setCell _ _ _ _ hk, Below.heap_setCell _ _ _ _ hk, Below.heap_setCell _ _ _ _ hk]
                  · try rw [HX.out]
                    exact (((hb1.trans ((hbc.trans (hb13'.mono hbc.size)).mono (by omega))).setCell (p := ⟨X, 0, none⟩) (Nat.le_refl _) _).setCell (p := ⟨X, 1, none⟩) (Nat.le_refl _) _).setCell (p := ⟨X, 2, none⟩) (Nat.le_refl _) _
              · have hbe : (T == s) = false := ba_ne hts
                have htl : ¬ T.toList = s.toList := fun h => hts (by rw [Lib.toList_data, Lib.toList_data] at h; exact ByteArray.ext (Array.toList_inj.1 h))
                rw [if_neg (fun h => hts (hTl.1 h.2))] at hPP
                have HPP2 := Lib.hid hPP
                clear hPP hTl hts
                go_upto_region 9 with fail
                go_region_held3 (fun W => W.cell? ⟨G, 0, none⟩ = some (.bool gy) ∧ W.cell? ⟨G, 1, none⟩ = some (.slice A ny ny) ∧ W.cell? ⟨G, 2, none⟩ = some (.int .i64 ey))
                  (first | (refine HC.out _ ?_; first | assumption | exact Below.refl _ _ | exact (Below.refl _ _).drew | exact b_drew (by assumption)) | (refine s3_set ?_ hGX; refine s3_set ?_ hGX; refine s3_set ?_ hGX; first | assumption | (refine HC.out _ ?_; first | assumption | exact b_drew (by assumption))))
                  (first | (go_at_call 46; refine (LI.out _).mono ?_; rintro x w13 ⟨rfl, hb13⟩; have hb13' := b_trans (a := wc) (by first | assumption | exact Below.refl _ _ | exact (Below.refl _ _).drew | exact b_drew (by assumption)) hb13; have q := (hb13'.block X hXlt).trans HXC.out; have x0 := at_block q 0 _ rfl; have x1 := at_block q 1 _ rfl; have x2 := at_block q 2 _ rfl; have f0 := free_block q 0; have f1 := free_block q 1; have f2 := free_block q 2; have HQ := Lib.hid q; clear q) | (go_at_call 30; refine (TX.out _ (HRC.out.on (by first | assumption | exact Below.refl _ _ | exact (Below.refl _ _).drew | exact b_drew (by assumption))) (HLC.out.on (by first | assumption | exact Below.refl _ _ | exact (Below.refl _ _).drew | exact b_drew (by assumption)))).mono ?_; rintro x w13 ⟨rfl, hb13⟩; have hb13' := b_trans (a := wc) (by first | assumption | exact Below.refl _ _ | exact (Below.refl _ _).drew | exact b_drew (by assumption)) hb13; have q := (hb13'.block X hXlt).trans HXC.out; have x0 := at_block q 0 _ rfl; have x1 := at_block q 1 _ rfl; have x2 := at_block q 2 _ rfl; have f0 := free_block q 0; have f1 := free_block q 1; have f2 := free_block q 2; have HQ := Lib.hid q; clear q))
                all_goals
                  go_wp2_with fail
                  refine bodyPost_ret (v := .tuple #[.agg #[.bool gy, .slice A ny ny, .int .i64 ey], .bool false]) (by first | (simp [results, Tryz.results23, go_sem, x0, x1, x2]; done) | (simp [results, Tryz.results23, go_sem, x0, x1, x2, htl]; done)) rfl ?_
                  refine ⟨?_, ?_⟩
                  · rw [HPP2.out]
                    exact ⟨gy, A, ny, ey, rfl, fun y' hy' => by cases hy'⟩
                  · try rw [HX.out]
                    exact (((hb1.trans ((hbc.trans (hb13'.mono hbc.size)).mono (by omega))).setCell (p := ⟨X, 0, none⟩) (Nat.le_refl _) _).setCell (p := ⟨X, 1, none⟩) (Nat.le_refl _) _).setCell (p := ⟨X, 2, none⟩) (Nat.le_refl _) _
            · rw [if_neg (fun h => h0 h.1)] at hPP
              have hmi : ((m : Int) == 0) = false := by simp; omega
              have HPP2 := Lib.hid hPP
              clear hPP hTl hm3
              go_upto_region 9 with fail
              refine wp_region_held_drew (S := fun W => W.cell? ⟨G, 0, none⟩ = some (.bool gy) ∧ W.cell? ⟨G, 1, none⟩ = some (.slice A ny ny) ∧ W.cell? ⟨G, 2, none⟩ = some (.int .i64 ey)) (by kernel_rfl) ⟨p0, p1, p2⟩ (fun hHeld => ?_)
              refine wpAnyH_take (i := 0) (v := .agg #[.bool gy, .slice A ny ny, .int .i64 ey]) rfl (by kernel_rfl) (by kernel_rfl) (by kernel_rfl) (fun _ _ _ h => h) (Or.inl ⟨by rfl, ?_⟩) hHeld ?_
              · intro W ⟨r0, r1, r2⟩; go_simp
              try simp only [Act.put, List.setIfInBounds_toArray, List.set_cons_zero, List.set_cons_succ, List.getElem_toArray, List.getElem_cons_zero]
              refine wpAnyH_take (i := 1) (v := .agg #[.bool gy, .slice A ny ny, .int .i64 ey]) rfl (by kernel_rfl) (by kernel_rfl) (by kernel_rfl) (fun _ _ _ h => h) (Or.inl ⟨by rfl, ?_⟩) hHeld ?_
              · intro W ⟨r0, r1, r2⟩; go_simp
              try simp only [Act.put, List.setIfInBounds_toArray, List.set_cons_zero, List.set_cons_succ, List.getElem_toArray, List.getElem_cons_zero, List.getElem_cons_succ]
              refine wpAnyH_ready (rs := [2]) (by kernel_rfl) (by simp) ?_
              refine AllReadyH.cons rfl (fun K hK => ?_) AllReadyH.nil
              rw [if_pos (by rfl)]
              go_simp
              refine (LI.out _).mono ?_
              rintro x w13 ⟨rfl, hb13⟩
              have hb13' : Below wc.heap.size wc w13 := b_trans (a := wc) (Below.refl _ _).drew hb13
              have q := (hb13'.block X hXlt).trans HXC.out
              have x0 := at_block q 0 _ rfl
              have x1 := at_block q 1 _ rfl
              have x2 := at_block q 2 _ rfl
              have f0 := free_block q 0
              have f1 := free_block q 1
              have f2 := free_block q 2
              have HQ := Lib.hid q
              clear q
              refine hK.out _ _ (HC.out _ hb13') (fun hHeld => ?_)
              clear hK K
              try simp only [Act.put, List.setIfInBounds_toArray, List.set_cons_zero, List.set_cons_succ, List.getElem_toArray, List.getElem_cons_zero, List.getElem_cons_succ]
              refine wpAnyH_take (i := 3) (v := .bool false) rfl (by kernel_rfl) (by kernel_rfl) (by kernel_rfl) (fun _ _ _ h => h) (Or.inl ⟨by rfl, ?_⟩) hHeld ?_
              · intro W hW; go_simp
              try simp only [Act.put, List.setIfInBounds_toArray, List.set_cons_zero, List.set_cons_succ, List.getElem_toArray, List.getElem_cons_zero, List.getElem_cons_succ]
              refine wpAnyH_take (i := 4) (v := .bool false) rfl (by kernel_rfl) (by kernel_rfl) (by kernel_rfl) (fun _ _ _ h => h) (Or.inl ⟨by rfl, ?_⟩) hHeld ?_
              · intro W hW; go_simp
              try simp only [Act.put, List.setIfInBounds_toArray, List.set_cons_zero, List.set_cons_succ, List.getElem_toArray, List.getElem_cons_zero, List.getElem_cons_succ]
              refine wpAnyH_take (i := 5) (v := undef) rfl (by kernel_rfl) (by kernel_rfl) (by kernel_rfl) (fun _ _ _ h => h) (Or.inr ⟨by rfl, rfl⟩) hHeld ?_
              try simp only [Act.put, List.setIfInBounds_toArray, List.set_cons_zero, List.set_cons_succ, List.getElem_toArray, List.getElem_cons_zero, List.getElem_cons_succ]
              refine wpAnyH_take (i := 6) (v := undef) rfl (by kernel_rfl) (by kernel_rfl) (by kernel_rfl) (fun _ _ _ h => h) (Or.inr ⟨by rfl, rfl⟩) hHeld ?_
              try simp only [Act.put, List.setIfInBounds_toArray, List.set_cons_zero, List.set_cons_succ, List.getElem_toArray, List.getElem_cons_zero, List.getElem_cons_succ]
              refine wpAnyH_take (i := 7) (v := undef) rfl (by kernel_rfl) (by kernel_rfl) (by kernel_rfl) (fun _ _ _ h => h) (Or.inr ⟨by rfl, rfl⟩) hHeld ?_
              try simp only [Act.put, List.setIfInBounds_toArray, List.set_cons_zero, List.set_cons_succ, List.getElem_toArray, List.getElem_cons_zero, List.getElem_cons_succ]
              refine wpAnyH_take (i := 8) (v := undef) rfl (by kernel_rfl) (by kernel_rfl) (by kernel_rfl) (fun _ _ _ h => h) (Or.inr ⟨by rfl, rfl⟩) hHeld ?_
              try simp only [Act.put, List.setIfInBounds_toArray, List.set_cons_zero, List.set_cons_succ, List.getElem_toArray, List.getElem_cons_zero, List.getElem_cons_succ]
              refine wpAnyH_take (i := 9) (v := .bool false) rfl (by kernel_rfl) (by kernel_rfl) (by kernel_rfl) (fun _ _ _ h => h) (Or.inl ⟨by rfl, ?_⟩) hHeld ?_
              · intro W hW; go_simp
              try simp only [Act.put, List.setIfInBounds_toArray, List.set_cons_zero, List.set_cons_succ, List.getElem_toArray, List.getElem_cons_zero, List.getElem_cons_succ]
              refine wpAnyH_ready (rs := [10]) (by kernel_rfl) (by simp) ?_
              refine AllReadyH.cons rfl (fun K hK => ?_) AllReadyH.nil
              rw [if_pos (by rfl)]
              go_simp
              refine hK.out _ _ (s3_set (s3_set (s3_set (HC.out _ hb13') hGX) hGX) hGX) (fun hHeld => ?_)
              clear hK K
              try simp only [Act.put, List.setIfInBounds_toArray, List.set_cons_zero, List.set_cons_succ, List.getElem_toArray, List.getElem_cons_zero, List.getElem_cons_succ]
              refine wpAnyH_take (i := 11) (v := .bool false) rfl (by kernel_rfl) (by kernel_rfl) (by kernel_rfl) (fun _ _ _ h => h) (Or.inl ⟨by rfl, ?_⟩) hHeld ?_
              · intro W hW; go_simp
              try simp only [Act.put, List.setIfInBounds_toArray, List.set_cons_zero, List.set_cons_succ, List.getElem_toArray, List.getElem_cons_zero, List.getElem_cons_succ]
              refine wpAnyH_done (by kernel_rfl) ?_ _
              go_wp2_with fail
              refine bodyPost_ret (v := .tuple #[.agg #[.bool gy, .slice A ny ny, .int .i64 ey], .bool false]) (by simp [results, Tryz.results23, go_sem, x0, x1, x2]) rfl ?_
              refine ⟨?_, ?_⟩
              · rw [HPP2.out]
                exact ⟨gy, A, ny, ey, rfl, fun y' hy' => by cases hy'⟩
              · try rw [HX.out]
                exact (((hb1.trans ((hbc.trans (hb13'.mono hbc.size)).mono (by omega))).setCell (p := ⟨X, 0, none⟩) (Nat.le_refl _) _).setCell (p := ⟨X, 1, none⟩) (Nat.le_refl _) _).setCell (p := ⟨X, 2, none⟩) (Nat.le_refl _) _
end Go.Proofs.YtmgafnflkfbckaaGreatDoor
