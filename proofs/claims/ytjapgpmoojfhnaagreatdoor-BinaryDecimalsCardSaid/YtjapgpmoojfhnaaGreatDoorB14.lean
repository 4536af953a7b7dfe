/- The reference's Of, walked case by case. -/
import Derived.Test.YtjapgpmoojfhnaaGreatDoorB13
namespace Go.Proofs.YtjapgpmoojfhnaaGreatDoor
open Go.RowKit Go.Lib

theorem bad_or {b : Bool} {n : Nat} (h : ¬ (b = true ∧ n ≤ 18)) : b = false ∨ 18 < n := by
  cases b with
  | false => exact .inl rfl
  | true => exact .inr (Nat.lt_of_not_le fun h3 => h ⟨rfl, h3⟩)
/-- What the walks of Of share: the string's rest behind its sign. -/
structure OfPre (s XB : ByteArray) (b45 : Bool) : Prop where
  pos : 0 < s.size
  le : s.size ≤ 300
  head : ∀ h : 0 < s.size, (((s[0]'h).toNat : Int) == 45) = b45
  cut : b45 = true → s.extract 1 s.size = XB
  whole : b45 = false → s = XB
theorem OfPre.len {s XB : ByteArray} {b45 : Bool} (h : OfPre s XB b45) : XB.size ≤ 300 := by
  have h2 := h.le
  cases b45 with
  | true => rw [← h.cut rfl]; simp; omega
  | false => rw [← h.whole rfl]; exact h2
set_option maxHeartbeats 4000000 in
set_option maxRecDepth 100000 in
theorem refof_inf (s XB : ByteArray) (b45 : Bool) (hp : OfPre s XB b45) (hi : XB.data.toList = [105, 110, 102]) (w : World) : Calls Tryz.prog 33 #[.string s] w fun x w' => x = .returned (.tuple #[.agg #[.int .i64 1, .bool b45, .int .u64 0, .int .i64 0], .bool true]) ∧ Below w.heap.size w w' := by
  have HP := Lib.hid hp
  obtain ⟨w2, hw2⟩ : ∃ w2 : World, w.alloc (.cells #[.int .i64 0, .bool false, .int .u64 0, .int .i64 0] 24) = w2 := ⟨_, rfl⟩
  obtain ⟨X, hX⟩ : ∃ X, w.heap.size = X := ⟨_, rfl⟩
  have hXc := heap_alloc_new w (.cells #[.int .i64 0, .bool false, .int .u64 0, .int .i64 0] 24)
  have hb2 : Below X w w2 := by rw [← hw2, ← hX]; exact (Below.refl _ _).alloc (Nat.le_refl _) _
  rw [hw2, hX] at hXc
  have HW2 := Lib.hid hw2
  have HX := Lib.hid hX
  have z0 := at_block hXc 0 _ rfl
  have z1 := at_block hXc 1 _ rfl
  have z2 := at_block hXc 2 _ rfl
  have z3 := at_block hXc 3 _ rfl
  have f0 := free_block hXc 0
  have f1 := free_block hXc 1
  have f2 := free_block hXc 2
  have f3 := free_block hXc 3
  have hlt0 := hp.pos
  have hin : decide (0 < s.size) = true := decide_eq_true hp.pos
  have hi00 : (0 : Int) < s.size := by have := hp.pos; omega
  have hsle := hp.le
  have hxle := hp.len
  obtain ⟨d0, hd0⟩ : ∃ d : UInt8, s[0]'hlt0 = d := ⟨_, rfl⟩
  have hb45 : ((d0.toNat : Int) == 45) = b45 := by rw [← hd0]; exact hp.head hlt0
  clear hp hw2 hX hXc
  have n1 : (XB.toList == [105, 110, 102]) = true := by rw [Lib.toList_data, hi]; rfl
  clear hi
  go_enter Tryz.func33, Tryz.ntmps33
  go_upto_if 20 with fail
  rw [HW2.out, HX.out]
  go_cut [5] (fun t wx => t = .string XB ∧ wx = w2)
  case first =>
    cases b45 with
    | true =>
      have E := HP.out.cut rfl
      have hss : decide (1 ≤ s.size) = true := decide_eq_true (by omega)
      have hss2 : (1 : Int) ≤ s.size := by omega
      go_wp2_with fail
      go_meet
      exact ⟨rfl, rfl⟩
    | false =>
      have E := Lib.hid (HP.out.whole rfl)
      go_wp2_with fail
      go_meet
      exact ⟨by rw [E.out], rfl⟩
  case rest =>
    obtain ⟨rfl, hww⟩ := hcut
    subst hww
    go_wp2_with fail
    refine bodyPost_ret (v := .tuple #[.agg #[.int .i64 1, .bool b45, .int .u64 0, .int .i64 0], .bool true]) (by simp [results, Tryz.results33, go_sem, z0, z1, z2, z3]) rfl ?_
    refine ⟨rfl, ?_⟩
    rw [HX.out]
    exact (((hb2.setCell (p := ⟨X, 0, none⟩) (Nat.le_refl _) _).setCell (p := ⟨X, 1, none⟩) (Nat.le_refl _) _).setCell (p := ⟨X, 2, none⟩) (Nat.le_refl _) _).setCell (p := ⟨X, 3, none⟩) (Nat.le_refl _) _
set_option maxHeartbeats 4000000 in
set_option maxRecDepth 100000 in
theorem refof_nan (s XB : ByteArray) (b45 : Bool) (hp : OfPre s XB b45) (hi : XB.data.toList ≠ [105, 110, 102]) (hn : s.data.toList = [110, 97, 110]) (w : World) : Calls Tryz.prog 33 #[.string s] w fun x w' => x = .returned (.tuple #[.agg #[.int .i64 2, .bool false, .int .u64 0, .int .i64 0], .bool true]) ∧ Below w.heap.size w w' := by
  have HP := Lib.hid hp
  obtain ⟨w2, hw2⟩ : ∃ w2 : World, w.alloc (.cells #[.int .i64 0, .bool false, .int .u64 0, .int .i64 0] 24) = w2 := ⟨_, rfl⟩
  obtain ⟨X, hX⟩ : ∃ X, w.heap.size = X := ⟨_, rfl⟩
  have hXc := heap_alloc_new w (.cells #[.int .i64 0, .bool false, .int .u64 0, .int .i64 0] 24)
  have hb2 : Below X w w2 := by rw [← hw2, ← hX]; exact (Below.refl _ _).alloc (Nat.le_refl _) _
  rw [hw2, hX] at hXc
  have HW2 := Lib.hid hw2
  have HX := Lib.hid hX
  have z0 := at_block hXc 0 _ rfl
  have z1 := at_block hXc 1 _ rfl
  have z2 := at_block hXc 2 _ rfl
  have z3 := at_block hXc 3 _ rfl
  have f0 := free_block hXc 0
  have f1 := free_block hXc 1
  have f2 := free_block hXc 2
  have f3 := free_block hXc 3
  have hlt0 := hp.pos
  have hin : decide (0 < s.size) = true := decide_eq_true hp.pos
  have hi00 : (0 : Int) < s.size := by have := hp.pos; omega
  have hsle := hp.le
  have hxle := hp.len
  obtain ⟨d0, hd0⟩ : ∃ d : UInt8, s[0]'hlt0 = d := ⟨_, rfl⟩
  have hb45 : ((d0.toNat : Int) == 45) = b45 := by rw [← hd0]; exact hp.head hlt0
  clear hp hw2 hX hXc
  have n1 : (XB.toList == [105, 110, 102]) = false := ba_list' hi
  have n2 : (s.toList == [110, 97, 110]) = true := by rw [Lib.toList_data, hn]; rfl
  clear hi hn
  go_enter Tryz.func33, Tryz.ntmps33
  go_upto_if 20 with fail
  rw [HW2.out, HX.out]
  go_cut [5] (fun t wx => t = .string XB ∧ wx = w2)
  case first =>
    cases b45 with
    | true =>
      have E := HP.out.cut rfl
      have hss : decide (1 ≤ s.size) = true := decide_eq_true (by omega)
      have hss2 : (1 : Int) ≤ s.size := by omega
      go_wp2_with fail
      go_meet
      exact ⟨rfl, rfl⟩
    | false =>
      have E := Lib.hid (HP.out.whole rfl)
      go_wp2_with fail
      go_meet
      exact ⟨by rw [E.out], rfl⟩
  case rest =>
    obtain ⟨rfl, hww⟩ := hcut
    subst hww
    go_wp2_with fail
    refine bodyPost_ret (v := .tuple #[.agg #[.int .i64 2, .bool false, .int .u64 0, .int .i64 0], .bool true]) (by simp [results, Tryz.results33, go_sem, z0, z1, z2, z3]) rfl ?_
    refine ⟨rfl, ?_⟩
    rw [HX.out]
    exact (((hb2.setCell (p := ⟨X, 0, none⟩) (Nat.le_refl _) _).setCell (p := ⟨X, 1, none⟩) (Nat.le_refl _) _).setCell (p := ⟨X, 2, none⟩) (Nat.le_refl _) _).setCell (p := ⟨X, 3, none⟩) (Nat.le_refl _) _
set_option maxHeartbeats 4000000 in
set_option maxRecDepth 100000 in
theorem refof_nop (s XB : ByteArray) (b45 : Bool) (hp : OfPre s XB b45) (hi : XB.data.toList ≠ [105, 110, 102]) (hn : s.data.toList ≠ [110, 97, 110]) (hno : ∀ j b, j < XB.size → XB.data.toList[j]? = some b → b ≠ 112) (w : World) : Calls Tryz.prog 33 #[.string s] w fun x w' => x = .returned (.tuple #[.agg #[.int .i64 0, .bool false, .int .u64 0, .int .i64 0], .bool false]) ∧ Below w.heap.size w w' := by
  have HP := Lib.hid hp
  obtain ⟨w2, hw2⟩ : ∃ w2 : World, w.alloc (.cells #[.int .i64 0, .bool false, .int .u64 0, .int .i64 0] 24) = w2 := ⟨_, rfl⟩
  obtain ⟨X, hX⟩ : ∃ X, w.heap.size = X := ⟨_, rfl⟩
  have hXc := heap_alloc_new w (.cells #[.int .i64 0, .bool false, .int .u64 0, .int .i64 0] 24)
  have hb2 : Below X w w2 := by rw [← hw2, ← hX]; exact (Below.refl _ _).alloc (Nat.le_refl _) _
  rw [hw2, hX] at hXc
  have HW2 := Lib.hid hw2
  have HX := Lib.hid hX
  have z0 := at_block hXc 0 _ rfl
  have z1 := at_block hXc 1 _ rfl
  have z2 := at_block hXc 2 _ rfl
  have z3 := at_block hXc 3 _ rfl
  have f0 := free_block hXc 0
  have f1 := free_block hXc 1
  have f2 := free_block hXc 2
  have f3 := free_block hXc 3
  have hlt0 := hp.pos
  have hin : decide (0 < s.size) = true := decide_eq_true hp.pos
  have hi00 : (0 : Int) < s.size := by have := hp.pos; omega
  have hsle := hp.le
  have hxle := hp.len
  obtain ⟨d0, hd0⟩ : ∃ d : UInt8, s[0]'hlt0 = d := ⟨_, rfl⟩
  have hb45 : ((d0.toNat : Int) == 45) = b45 := by rw [← hd0]; exact hp.head hlt0
  clear hp hw2 hX hXc
  have n1 : (XB.toList == [105, 110, 102]) = false := ba_list' hi
  have n2 : (s.toList == [110, 97, 110]) = false := ba_list' hn
  clear hi hn
  obtain ⟨PN, hPN⟩ : ∃ PN, XB.size = PN := ⟨_, rfl⟩
  have hPNb : PN ≤ 300 := by omega
  have HNO := Lib.hid (show ∀ j b, j < PN → XB.data.toList[j]? = some b → b ≠ 112 by rw [← hPN]; exact hno)
  clear hno
  go_enter Tryz.func33, Tryz.ntmps33
  go_upto_if 20 with fail
  rw [HW2.out, HX.out]
  go_cut [5] (fun t wx => t = .string XB ∧ wx = w2)
  case first =>
    cases b45 with
    | true =>
      have E := HP.out.cut rfl
      have hss : decide (1 ≤ s.size) = true := decide_eq_true (by omega)
      have hss2 : (1 : Int) ≤ s.size := by omega
      go_wp2_with fail
      go_meet
      exact ⟨rfl, rfl⟩
    | false =>
      have E := Lib.hid (HP.out.whole rfl)
      go_wp2_with fail
      go_meet
      exact ⟨by rw [E.out], rfl⟩
  case rest =>
    obtain ⟨rfl, hww⟩ := hcut
    subst hww
    go_wp2_with fail
    go_loopg [6] PN (fun g t wx => ∃ k : Nat, t = .int .i64 (k : Int) ∧ wx = wc ∧ k ≤ PN ∧ PN ≤ k + g)
    case atStart => exact ⟨0, rfl, rfl, by omega, by omega⟩
    case round =>
      obtain ⟨k, rfl, hww, hkp, hg⟩ := hrel
      subst hww
      by_cases hkl : k < PN
      · obtain ⟨g, rfl⟩ : ∃ g, gk = g + 1 := ⟨gk - 1, by omega⟩
        have hks : k < XB.size := by omega
        have hk0 : (0 : Int) ≤ (k : Int) := by omega
        have hki : (k : Int) < XB.size := by omega
        have n1 : decide (k < XB.size) = true := decide_eq_true hks
        obtain ⟨e0, he⟩ : ∃ e : UInt8, XB[k]'hks = e := ⟨_, rfl⟩
        have hne := HNO.out k e0 hkl (byte_at hks he)
        have n2 : ((e0.toNat : Int) == 112) = false := byte_eq (c := 112) hne
        have n3 : ((e0.toNat : Int) != 112) = true := by rw [bne, n2]; rfl
        go_wp2_with fail
        go_roundg g
        case measure => omega
        case rel => exact ⟨k + 1, by go_num, rfl, hkl, Nat.le_trans hg (Nat.le_of_eq (by rw [Nat.add_assoc, Nat.add_comm 1 g]))⟩
      · obtain rfl : k = PN := by omega
        have n4 : decide (k < XB.size) = false := decide_eq_false (by omega)
        have n5 : ((k : Int) == (XB.size : Int)) = true := by rw [beq_iff_eq]; omega
        clear hkl
        go_wp2_with fail
        refine bodyPost_ret (v := .tuple #[.agg #[.int .i64 0, .bool false, .int .u64 0, .int .i64 0], .bool false]) (by simp [results, Tryz.results33, go_sem, z0, z1, z2, z3]) rfl ?_
        refine ⟨rfl, ?_⟩
        rw [HX.out]
        exact (((hb2.setCell (p := ⟨X, 0, none⟩) (Nat.le_refl _) _).setCell (p := ⟨X, 1, none⟩) (Nat.le_refl _) _).setCell (p := ⟨X, 2, none⟩) (Nat.le_refl _) _).setCell (p := ⟨X, 3, none⟩) (Nat.le_refl _) _
set_option maxHeartbeats 4000000 in
set_option maxRecDepth 100000 in
theorem refof_abad (s XB : ByteArray) (b45 : Bool) (hp : OfPre s XB b45) (hi : XB.data.toList ≠ [105, 110, 102]) (hn : s.data.toList ≠ [110, 97, 110]) (A B : List UInt8) (hAB : XB.data.toList = A ++ 112 :: B) (hA : ∀ b ∈ A, b ≠ 112) (ha : Fl.vB A = false ∨ 18 < A.length) (w : World) : Calls Tryz.prog 33 #[.string s] w fun x w' => x = .returned (.tuple #[.agg #[.int .i64 0, .bool false, .int .u64 0, .int .i64 0], .bool false]) ∧ Below w.heap.size w w' := by
  have HP := Lib.hid hp
  obtain ⟨w2, hw2⟩ : ∃ w2 : World, w.alloc (.cells #[.int .i64 0, .bool false, .int .u64 0, .int .i64 0] 24) = w2 := ⟨_, rfl⟩
  obtain ⟨X, hX⟩ : ∃ X, w.heap.size = X := ⟨_, rfl⟩
  have hXc := heap_alloc_new w (.cells #[.int .i64 0, .bool false, .int .u64 0, .int .i64 0] 24)
  have hb2 : Below X w w2 := by rw [← hw2, ← hX]; exact (Below.refl _ _).alloc (Nat.le_refl _) _
  rw [hw2, hX] at hXc
  have HW2 := Lib.hid hw2
  have HX := Lib.hid hX
  have z0 := at_block hXc 0 _ rfl
  have z1 := at_block hXc 1 _ rfl
  have z2 := at_block hXc 2 _ rfl
  have z3 := at_block hXc 3 _ rfl
  have f0 := free_block hXc 0
  have f1 := free_block hXc 1
  have f2 := free_block hXc 2
  have f3 := free_block hXc 3
  have hlt0 := hp.pos
  have hin : decide (0 < s.size) = true := decide_eq_true hp.pos
  have hi00 : (0 : Int) < s.size := by have := hp.pos; omega
  have hsle := hp.le
  have hxle := hp.len
  obtain ⟨d0, hd0⟩ : ∃ d : UInt8, s[0]'hlt0 = d := ⟨_, rfl⟩
  have hb45 : ((d0.toNat : Int) == 45) = b45 := by rw [← hd0]; exact hp.head hlt0
  clear hp hw2 hX hXc
  have n1 : (XB.toList == [105, 110, 102]) = false := ba_list' hi
  have n2 : (s.toList == [110, 97, 110]) = false := ba_list' hn
  clear hi hn
  obtain ⟨PN, hPN⟩ : ∃ PN, A.length = PN := ⟨_, rfl⟩
  have hsz : XB.size = PN + 1 + B.length := by rw [ba_size, hAB, List.length_append, List.length_cons, hPN]; omega
  have HNO := Lib.hid (show ∀ j b, j < PN → XB.data.toList[j]? = some b → b ≠ 112 from fun j b hj hb => by
    rw [hAB, List.getElem?_append_left (by omega)] at hb
    exact hA b (List.mem_of_getElem? hb))
  obtain ⟨AB, hABe⟩ : ∃ AB, XB.extract 0 PN = AB := ⟨_, rfl⟩
  obtain ⟨BB, hBBe⟩ : ∃ BB, XB.extract (PN + 1) XB.size = BB := ⟨_, rfl⟩
  have hABl : AB.data.toList = A := by
    rw [← hABe]
    simp [hAB, ← hPN]
  have hBBl : BB.data.toList = B := by
    rw [← hBBe]
    simp [hAB, ← hPN, hsz]
  have hpl : PN < XB.size := by omega
  have hp112 : XB[PN]'hpl = 112 := by
    have h1 := byte_at hpl rfl
    rw [hAB, List.getElem?_append_right (by omega), hPN, Nat.sub_self] at h1
    exact (Option.some.inj h1).symm
  have hABs : AB.size ≤ 300 := by rw [ba_size, hABl]; omega
  have hBBs : BB.size ≤ 300 := by rw [ba_size, hBBl]; omega
  have NA := fun W => refnumber_bad AB hABs (by rw [ba_size, hABl]; exact ha) W
  have NBB : ∃ (v : Int) (g : Bool), ∀ W, Calls Tryz.prog 71 #[.string BB] W fun x w' => x = .returned (.tuple #[.int .i64 v, .bool g]) ∧ w' = W := by
    by_cases h : Fl.vB B = true ∧ BB.size ≤ 18
    · exact ⟨_, _, fun W => refnumber_good BB h.2 (by rw [hBBl]; exact h.1) W⟩
    · refine ⟨_, _, fun W => refnumber_bad BB hBBs (by rw [hBBl]; exact bad_or h) W⟩
  obtain ⟨v, g, NB⟩ := NBB
  have NA := Lib.hid NA
  have NB := Lib.hid NB
  clear ha
  clear hA hAB hPN hABl hBBl hsz
  go_enter Tryz.func33, Tryz.ntmps33
  go_upto_if 20 with fail
  rw [HW2.out, HX.out]
  go_cut [5] (fun t wx => t = .string XB ∧ wx = w2)
  case first =>
    cases b45 with
    | true =>
      have E := HP.out.cut rfl
      have hss : decide (1 ≤ s.size) = true := decide_eq_true (by omega)
      have hss2 : (1 : Int) ≤ s.size := by omega
      go_wp2_with fail
      go_meet
      exact ⟨rfl, rfl⟩
    | false =>
      have E := Lib.hid (HP.out.whole rfl)
      go_wp2_with fail
      go_meet
      exact ⟨by rw [E.out], rfl⟩
  case rest =>
    obtain ⟨rfl, hww⟩ := hcut
    subst hww
    go_wp2_with fail
    go_loopg [6] PN (fun g t wx => ∃ k : Nat, t = .int .i64 (k : Int) ∧ wx = wc ∧ k ≤ PN ∧ PN ≤ k + g)
    case atStart => exact ⟨0, rfl, rfl, by omega, by omega⟩
    case round =>
      obtain ⟨k, rfl, hww, hkp, hg⟩ := hrel
      subst hww
      by_cases hkl : k < PN
      · obtain ⟨g, rfl⟩ : ∃ g, gk = g + 1 := ⟨gk - 1, by omega⟩
        have hks : k < XB.size := by omega
        have hk0 : (0 : Int) ≤ (k : Int) := by omega
        have hki : (k : Int) < XB.size := by omega
        have n1 : decide (k < XB.size) = true := decide_eq_true hks
        obtain ⟨e0, he⟩ : ∃ e : UInt8, XB[k]'hks = e := ⟨_, rfl⟩
        have hne := HNO.out k e0 hkl (byte_at hks he)
        have n2 : ((e0.toNat : Int) == 112) = false := byte_eq (c := 112) hne
        have n3 : ((e0.toNat : Int) != 112) = true := by rw [bne, n2]; rfl
        go_wp2_with fail
        go_roundg g
        case measure => omega
        case rel => exact ⟨k + 1, by go_num, rfl, hkl, Nat.le_trans hg (Nat.le_of_eq (by rw [Nat.add_assoc, Nat.add_comm 1 g]))⟩
      · obtain rfl : k = PN := by omega
        have hk0 : (0 : Int) ≤ (k : Int) := by omega
        have hki : (k : Int) < XB.size := by omega
        have hkn : (k : Int) ≤ XB.size := by omega
        have hkn2 : k ≤ XB.size := by omega
        have hkn3 : k + 1 ≤ XB.size := by omega
        have n4 : decide (k < XB.size) = true := decide_eq_true hpl
        have n5 : (((112 : UInt8).toNat : Int) == 112) = true := rfl
        have n6 : (((112 : UInt8).toNat : Int) != 112) = false := rfl
        have n7 : ((k : Int) == (XB.size : Int)) = false := by rw [beq_eq_false_iff_ne]; omega
        have n8 : IntKind.i64.wrap ((k : Int) + 1) = ((k + 1 : Nat) : Int) := by rw [show (k : Int) + 1 = ((k + 1 : Nat) : Int) by omega]; exact IntWalk.i64_in _ (by omega)
        have n9 : ((k + 1 : Nat) : Int) ≤ XB.size := by omega
        clear hkl
        go_wp2_with fail
        refine (NA.out _).mono ?_
        rintro x w5 ⟨rfl, rfl⟩
        go_wp2_with fail
        refine (NB.out _).mono ?_
        rintro x w6 ⟨rfl, rfl⟩
        go_wp2_with fail
        refine bodyPost_ret (v := .tuple #[.agg #[.int .i64 0, .bool false, .int .u64 0, .int .i64 0], .bool false]) (by simp [results, Tryz.results33, go_sem, z0, z1, z2, z3]) rfl ?_
        refine ⟨rfl, ?_⟩
        rw [HX.out]
        exact (((hb2.setCell (p := ⟨X, 0, none⟩) (Nat.le_refl _) _).setCell (p := ⟨X, 1, none⟩) (Nat.le_refl _) _).setCell (p := ⟨X, 2, none⟩) (Nat.le_refl _) _).setCell (p := ⟨X, 3, none⟩) (Nat.le_refl _) _
set_option maxHeartbeats 4000000 in
set_option maxRecDepth 100000 in
theorem refof_bbad (s XB : ByteArray) (b45 : Bool) (hp : OfPre s XB b45) (hi : XB.data.toList ≠ [105, 110, 102]) (hn : s.data.toList ≠ [110, 97, 110]) (A B : List UInt8) (hAB : XB.data.toList = A ++ 112 :: B) (hA : ∀ b ∈ A, b ≠ 112) (m : Int) (ha : Fl.vB A = true) (ha2 : A.length ≤ 18) (hm : Fl.numI A = m) (hb : Fl.vB B = false ∨ 18 < B.length) (w : World) : Calls Tryz.prog 33 #[.string s] w fun x w' => x = .returned (.tuple #[.agg #[.int .i64 0, .bool false, .int .u64 0, .int .i64 0], .bool false]) ∧ Below w.heap.size w w' := by
  have HP := Lib.hid hp
  obtain ⟨w2, hw2⟩ : ∃ w2 : World, w.alloc (.cells #[.int .i64 0, .bool false, .int .u64 0, .int .i64 0] 24) = w2 := ⟨_, rfl⟩
  obtain ⟨X, hX⟩ : ∃ X, w.heap.size = X := ⟨_, rfl⟩
  have hXc := heap_alloc_new w (.cells #[.int .i64 0, .bool false, .int .u64 0, .int .i64 0] 24)
  have hb2 : Below X w w2 := by rw [← hw2, ← hX]; exact (Below.refl _ _).alloc (Nat.le_refl _) _
  rw [hw2, hX] at hXc
  have HW2 := Lib.hid hw2
  have HX := Lib.hid hX
  have z0 := at_block hXc 0 _ rfl
  have z1 := at_block hXc 1 _ rfl
  have z2 := at_block hXc 2 _ rfl
  have z3 := at_block hXc 3 _ rfl
  have f0 := free_block hXc 0
  have f1 := free_block hXc 1
  have f2 := free_block hXc 2
  have f3 := free_block hXc 3
  have hlt0 := hp.pos
  have hin : decide (0 < s.size) = true := decide_eq_true hp.pos
  have hi00 : (0 : Int) < s.size := by have := hp.pos; omega
  have hsle := hp.le
  have hxle := hp.len
  obtain ⟨d0, hd0⟩ : ∃ d : UInt8, s[0]'hlt0 = d := ⟨_, rfl⟩
  have hb45 : ((d0.toNat : Int) == 45) = b45 := by rw [← hd0]; exact hp.head hlt0
  clear hp hw2 hX hXc
  have n1 : (XB.toList == [105, 110, 102]) = false := ba_list' hi
  have n2 : (s.toList == [110, 97, 110]) = false := ba_list' hn
  clear hi hn
  obtain ⟨PN, hPN⟩ : ∃ PN, A.length = PN := ⟨_, rfl⟩
  have hsz : XB.size = PN + 1 + B.length := by rw [ba_size, hAB, List.length_append, List.length_cons, hPN]; omega
  have HNO := Lib.hid (show ∀ j b, j < PN → XB.data.toList[j]? = some b → b ≠ 112 from fun j b hj hb => by
    rw [hAB, List.getElem?_append_left (by omega)] at hb
    exact hA b (List.mem_of_getElem? hb))
  obtain ⟨AB, hABe⟩ : ∃ AB, XB.extract 0 PN = AB := ⟨_, rfl⟩
  obtain ⟨BB, hBBe⟩ : ∃ BB, XB.extract (PN + 1) XB.size = BB := ⟨_, rfl⟩
  have hABl : AB.data.toList = A := by
    rw [← hABe]
    simp [hAB, ← hPN]
  have hBBl : BB.data.toList = B := by
    rw [← hBBe]
    simp [hAB, ← hPN, hsz]
  have hpl : PN < XB.size := by omega
  have hp112 : XB[PN]'hpl = 112 := by
    have h1 := byte_at hpl rfl
    rw [hAB, List.getElem?_append_right (by omega), hPN, Nat.sub_self] at h1
    exact (Option.some.inj h1).symm
  have hABs : AB.size ≤ 300 := by rw [ba_size, hABl]; omega
  have hBBs : BB.size ≤ 300 := by rw [ba_size, hBBl]; omega
  have NA := fun W => refnumber_good AB (by rw [ba_size, hABl]; exact ha2) (by rw [hABl]; exact ha) W
  rw [hABl, hm] at NA
  have NA := Lib.hid NA
  have NB := Lib.hid (fun W => refnumber_bad BB hBBs (by rw [ba_size, hBBl]; exact hb) W)
  clear ha ha2 hm hb
  clear hA hAB hPN hABl hBBl hsz
  go_enter Tryz.func33, Tryz.ntmps33
  go_upto_if 20 with fail
  rw [HW2.out, HX.out]
  go_cut [5] (fun t wx => t = .string XB ∧ wx = w2)
  case first =>
    cases b45 with
    | true =>
      have E := HP.out.cut rfl
      have hss : decide (1 ≤ s.size) = true := decide_eq_true (by omega)
      have hss2 : (1 : Int) ≤ s.size := by omega
      go_wp2_with fail
      go_meet
      exact ⟨rfl, rfl⟩
    | false =>
      have E := Lib.hid (HP.out.whole rfl)
      go_wp2_with fail
      go_meet
      exact ⟨by rw [E.out], rfl⟩
  case rest =>
    obtain ⟨rfl, hww⟩ := hcut
    subst hww
    go_wp2_with fail
    go_loopg [6] PN (fun g t wx => ∃ k : Nat, t = .int .i64 (k : Int) ∧ wx = wc ∧ k ≤ PN ∧ PN ≤ k + g)
    case atStart => exact ⟨0, rfl, rfl, by omega, by omega⟩
    case round =>
      obtain ⟨k, rfl, hww, hkp, hg⟩ := hrel
      subst hww
      by_cases hkl : k < PN
      · obtain ⟨g, rfl⟩ : ∃ g, gk = g + 1 := ⟨gk - 1, by omega⟩
        have hks : k < XB.size := by omega
        have hk0 : (0 : Int) ≤ (k : Int) := by omega
        have hki : (k : Int) < XB.size := by omega
        have n1 : decide (k < XB.size) = true := decide_eq_true hks
        obtain ⟨e0, he⟩ : ∃ e : UInt8, XB[k]'hks = e := ⟨_, rfl⟩
        have hne := HNO.out k e0 hkl (byte_at hks he)
        have n2 : ((e0.toNat : Int) == 112) = false := byte_eq (c := 112) hne
        have n3 : ((e0.toNat : Int) != 112) = true := by rw [bne, n2]; rfl
        go_wp2_with fail
        go_roundg g
        case measure => omega
        case rel => exact ⟨k + 1, by go_num, rfl, hkl, Nat.le_trans hg (Nat.le_of_eq (by rw [Nat.add_assoc, Nat.add_comm 1 g]))⟩
      · obtain rfl : k = PN := by omega
        have hk0 : (0 : Int) ≤ (k : Int) := by omega
        have hki : (k : Int) < XB.size := by omega
        have hkn : (k : Int) ≤ XB.size := by omega
        have hkn2 : k ≤ XB.size := by omega
        have hkn3 : k + 1 ≤ XB.size := by omega
        have n4 : decide (k < XB.size) = true := decide_eq_true hpl
        have n5 : (((112 : UInt8).toNat : Int) == 112) = true := rfl
        have n6 : (((112 : UInt8).toNat : Int) != 112) = false := rfl
        have n7 : ((k : Int) == (XB.size : Int)) = false := by rw [beq_eq_false_iff_ne]; omega
        have n8 : IntKind.i64.wrap ((k : Int) + 1) = ((k + 1 : Nat) : Int) := by rw [show (k : Int) + 1 = ((k + 1 : Nat) : Int) by omega]; exact IntWalk.i64_in _ (by omega)
        have n9 : ((k + 1 : Nat) : Int) ≤ XB.size := by omega
        clear hkl
        go_wp2_with fail
        refine (NA.out _).mono ?_
        rintro x w5 ⟨rfl, rfl⟩
        go_wp2_with fail
        refine (NB.out _).mono ?_
        rintro x w6 ⟨rfl, rfl⟩
        go_wp2_with fail
        refine bodyPost_ret (v := .tuple #[.agg #[.int .i64 0, .bool false, .int .u64 0, .int .i64 0], .bool false]) (by simp [results, Tryz.results33, go_sem, z0, z1, z2, z3]) rfl ?_
        refine ⟨rfl, ?_⟩
        rw [HX.out]
        exact (((hb2.setCell (p := ⟨X, 0, none⟩) (Nat.le_refl _) _).setCell (p := ⟨X, 1, none⟩) (Nat.le_refl _) _).setCell (p := ⟨X, 2, none⟩) (Nat.le_refl _) _).setCell (p := ⟨X, 3, none⟩) (Nat.le_refl _) _
set_option maxHeartbeats 4000000 in
set_option maxRecDepth 100000 in
theorem refof_neg (s XB : ByteArray) (b45 : Bool) (hp : OfPre s XB b45) (hi : XB.data.toList ≠ [105, 110, 102]) (hn : s.data.toList ≠ [110, 97, 110]) (A B : List UInt8) (hAB : XB.data.toList = A ++ 112 :: B) (hA : ∀ b ∈ A, b ≠ 112) (m e : Int) (ha : Fl.vB A = true) (ha2 : A.length ≤ 18) (hm : Fl.numI A = m) (hb : Fl.vB B = true) (hbl : B.length ≤ 18) (he : Fl.numI B = e) (c1 : m < 0) (w : World) : Calls Tryz.prog 33 #[.string s] w fun x w' => x = .returned (.tuple #[.agg #[.int .i64 0, .bool false, .int .u64 0, .int .i64 0], .bool false]) ∧ Below w.heap.size w w' := by
  have HP := Lib.hid hp
  obtain ⟨w2, hw2⟩ : ∃ w2 : World, w.alloc (.cells #[.int .i64 0, .bool false, .int .u64 0, .int .i64 0] 24) = w2 := ⟨_, rfl⟩
  obtain ⟨X, hX⟩ : ∃ X, w.heap.size = X := ⟨_, rfl⟩
  have hXc := heap_alloc_new w (.cells #[.int .i64 0, .bool false, .int .u64 0, .int .i64 0] 24)
  have hb2 : Below X w w2 := by rw [← hw2, ← hX]; exact (Below.refl _ _).alloc (Nat.le_refl _) _
  rw [hw2, hX] at hXc
  have HW2 := Lib.hid hw2
  have HX := Lib.hid hX
  have z0 := at_block hXc 0 _ rfl
  have z1 := at_block hXc 1 _ rfl
  have z2 := at_block hXc 2 _ rfl
  have z3 := at_block hXc 3 _ rfl
  have f0 := free_block hXc 0
  have f1 := free_block hXc 1
  have f2 := free_block hXc 2
  have f3 := free_block hXc 3
  have hlt0 := hp.pos
  have hin : decide (0 < s.size) = true := decide_eq_true hp.pos
  have hi00 : (0 : Int) < s.size := by have := hp.pos; omega
  have hsle := hp.le
  have hxle := hp.len
  obtain ⟨d0, hd0⟩ : ∃ d : UInt8, s[0]'hlt0 = d := ⟨_, rfl⟩
  have hb45 : ((d0.toNat : Int) == 45) = b45 := by rw [← hd0]; exact hp.head hlt0
  clear hp hw2 hX hXc
  have n1 : (XB.toList == [105, 110, 102]) = false := ba_list' hi
  have n2 : (s.toList == [110, 97, 110]) = false := ba_list' hn
  clear hi hn
  obtain ⟨PN, hPN⟩ : ∃ PN, A.length = PN := ⟨_, rfl⟩
  have hsz : XB.size = PN + 1 + B.length := by rw [ba_size, hAB, List.length_append, List.length_cons, hPN]; omega
  have HNO := Lib.hid (show ∀ j b, j < PN → XB.data.toList[j]? = some b → b ≠ 112 from fun j b hj hb => by
    rw [hAB, List.getElem?_append_left (by omega)] at hb
    exact hA b (List.mem_of_getElem? hb))
  obtain ⟨AB, hABe⟩ : ∃ AB, XB.extract 0 PN = AB := ⟨_, rfl⟩
  obtain ⟨BB, hBBe⟩ : ∃ BB, XB.extract (PN + 1) XB.size = BB := ⟨_, rfl⟩
  have hABl : AB.data.toList = A := by
    rw [← hABe]
    simp [hAB, ← hPN]
  have hBBl : BB.data.toList = B := by
    rw [← hBBe]
    simp [hAB, ← hPN, hsz]
  have hpl : PN < XB.size := by omega
  have hp112 : XB[PN]'hpl = 112 := by
    have h1 := byte_at hpl rfl
    rw [hAB, List.getElem?_append_right (by omega), hPN, Nat.sub_self] at h1
    exact (Option.some.inj h1).symm
  have hABs : AB.size ≤ 300 := by rw [ba_size, hABl]; omega
  have hBBs : BB.size ≤ 300 := by rw [ba_size, hBBl]; omega
  have NA := fun W => refnumber_good AB (by rw [ba_size, hABl]; exact ha2) (by rw [hABl]; exact ha) W
  rw [hABl, hm] at NA
  have NA := Lib.hid NA
  have NB := fun W => refnumber_good BB (by rw [ba_size, hBBl]; exact hbl) (by rw [hBBl]; exact hb) W
  rw [hBBl, he] at NB
  have NB := Lib.hid NB
  have k1 : decide (m < 0) = true := decide_eq_true c1
  clear ha ha2 hm hb hbl he c1
  clear hA hAB hPN hABl hBBl hsz
  go_enter Tryz.func33, Tryz.ntmps33
  go_upto_if 20 with fail
  rw [HW2.out, HX.out]
  go_cut [5] (fun t wx => t = .string XB ∧ wx = w2)
  case first =>
    cases b45 with
    | true =>
      have E := HP.out.cut rfl
      have hss : decide (1 ≤ s.size) = true := decide_eq_true (by omega)
      have hss2 : (1 : Int) ≤ s.size := by omega
      go_wp2_with fail
      go_meet
      exact ⟨rfl, rfl⟩
    | false =>
      have E := Lib.hid (HP.out.whole rfl)
      go_wp2_with fail
      go_meet
      exact ⟨by rw [E.out], rfl⟩
  case rest =>
    obtain ⟨rfl, hww⟩ := hcut
    subst hww
    go_wp2_with fail
    go_loopg [6] PN (fun g t wx => ∃ k : Nat, t = .int .i64 (k : Int) ∧ wx = wc ∧ k ≤ PN ∧ PN ≤ k + g)
    case atStart => exact ⟨0, rfl, rfl, by omega, by omega⟩
    case round =>
      obtain ⟨k, rfl, hww, hkp, hg⟩ := hrel
      subst hww
      by_cases hkl : k < PN
      · obtain ⟨g, rfl⟩ : ∃ g, gk = g + 1 := ⟨gk - 1, by omega⟩
        have hks : k < XB.size := by omega
        have hk0 : (0 : Int) ≤ (k : Int) := by omega
        have hki : (k : Int) < XB.size := by omega
        have n1 : decide (k < XB.size) = true := decide_eq_true hks
        obtain ⟨e0, he⟩ : ∃ e : UInt8, XB[k]'hks = e := ⟨_, rfl⟩
        have hne := HNO.out k e0 hkl (byte_at hks he)
        have n2 : ((e0.toNat : Int) == 112) = false := byte_eq (c := 112) hne
        have n3 : ((e0.toNat : Int) != 112) = true := by rw [bne, n2]; rfl
        go_wp2_with fail
        go_roundg g
        case measure => omega
        case rel => exact ⟨k + 1, by go_num, rfl, hkl, Nat.le_trans hg (Nat.le_of_eq (by rw [Nat.add_assoc, Nat.add_comm 1 g]))⟩
      · obtain rfl : k = PN := by omega
        have hk0 : (0 : Int) ≤ (k : Int) := by omega
        have hki : (k : Int) < XB.size := by omega
        have hkn : (k : Int) ≤ XB.size := by omega
        have hkn2 : k ≤ XB.size := by omega
        have hkn3 : k + 1 ≤ XB.size := by omega
        have n4 : decide (k < XB.size) = true := decide_eq_true hpl
        have n5 : (((112 : UInt8).toNat : Int) == 112) = true := rfl
        have n6 : (((112 : UInt8).toNat : Int) != 112) = false := rfl
        have n7 : ((k : Int) == (XB.size : Int)) = false := by rw [beq_eq_false_iff_ne]; omega
        have n8 : IntKind.i64.wrap ((k : Int) + 1) = ((k + 1 : Nat) : Int) := by rw [show (k : Int) + 1 = ((k + 1 : Nat) : Int) by omega]; exact IntWalk.i64_in _ (by omega)
        have n9 : ((k + 1 : Nat) : Int) ≤ XB.size := by omega
        clear hkl
        go_wp2_with fail
        refine (NA.out _).mono ?_
        rintro x w5 ⟨rfl, rfl⟩
        go_wp2_with fail
        refine (NB.out _).mono ?_
        rintro x w6 ⟨rfl, rfl⟩
        go_wp2_with fail
        refine bodyPost_ret (v := .tuple #[.agg #[.int .i64 0, .bool false, .int .u64 0, .int .i64 0], .bool false]) (by simp [results, Tryz.results33, go_sem, z0, z1, z2, z3]) rfl ?_
        refine ⟨rfl, ?_⟩
        rw [HX.out]
        exact (((hb2.setCell (p := ⟨X, 0, none⟩) (Nat.le_refl _) _).setCell (p := ⟨X, 1, none⟩) (Nat.le_refl _) _).setCell (p := ⟨X, 2, none⟩) (Nat.le_refl _) _).setCell (p := ⟨X, 3, none⟩) (Nat.le_refl _) _
set_option maxHeartbeats 4000000 in
set_option maxRecDepth 100000 in
theorem refof_zexp (s XB : ByteArray) (b45 : Bool) (hp : OfPre s XB b45) (hi : XB.data.toList ≠ [105, 110, 102]) (hn : s.data.toList ≠ [110, 97, 110]) (A B : List UInt8) (hAB : XB.data.toList = A ++ 112 :: B) (hA : ∀ b ∈ A, b ≠ 112) (m e : Int) (ha : Fl.vB A = true) (ha2 : A.length ≤ 18) (hm : Fl.numI A = m) (hb : Fl.vB B = true) (hbl : B.length ≤ 18) (he : Fl.numI B = e) (c1 : m = 0) (c2 : e ≠ 0) (w : World) : Calls Tryz.prog 33 #[.string s] w fun x w' => x = .returned (.tuple #[.agg #[.int .i64 0, .bool false, .int .u64 0, .int .i64 0], .bool false]) ∧ Below w.heap.size w w' := by
  have HP := Lib.hid hp
  obtain ⟨w2, hw2⟩ : ∃ w2 : World, w.alloc (.cells #[.int .i64 0, .bool false, .int .u64 0, .int .i64 0] 24) = w2 := ⟨_, rfl⟩
  obtain ⟨X, hX⟩ : ∃ X, w.heap.size = X := ⟨_, rfl⟩
  have hXc := heap_alloc_new w (.cells #[.int .i64 0, .bool false, .int .u64 0, .int .i64 0] 24)
  have hb2 : Below X w w2 := by rw [← hw2, ← hX]; exact (Below.refl _ _).alloc (Nat.le_refl _) _
  rw [hw2, hX] at hXc
  have HW2 := Lib.hid hw2
  have HX := Lib.hid hX
  have z0 := at_block hXc 0 _ rfl
  have z1 := at_block hXc 1 _ rfl
  have z2 := at_block hXc 2 _ rfl
  have z3 := at_block hXc 3 _ rfl
  have f0 := free_block hXc 0
  have f1 := free_block hXc 1
  have f2 := free_block hXc 2
  have f3 := free_block hXc 3
  have hlt0 := hp.pos
  have hin : decide (0 < s.size) = true := decide_eq_true hp.pos
  have hi00 : (0 : Int) < s.size := by have := hp.pos; omega
  have hsle := hp.le
  have hxle := hp.len
  obtain ⟨d0, hd0⟩ : ∃ d : UInt8, s[0]'hlt0 = d := ⟨_, rfl⟩
  have hb45 : ((d0.toNat : Int) == 45) = b45 := by rw [← hd0]; exact hp.head hlt0
  clear hp hw2 hX hXc
  have n1 : (XB.toList == [105, 110, 102]) = false := ba_list' hi
  have n2 : (s.toList == [110, 97, 110]) = false := ba_list' hn
  clear hi hn
  obtain ⟨PN, hPN⟩ : ∃ PN, A.length = PN := ⟨_, rfl⟩
  have hsz : XB.size = PN + 1 + B.length := by rw [ba_size, hAB, List.length_append, List.length_cons, hPN]; omega
  have HNO := Lib.hid (show ∀ j b, j < PN → XB.data.toList[j]? = some b → b ≠ 112 from fun j b hj hb => by
    rw [hAB, List.getElem?_append_left (by omega)] at hb
    exact hA b (List.mem_of_getElem? hb))
  obtain ⟨AB, hABe⟩ : ∃ AB, XB.extract 0 PN = AB := ⟨_, rfl⟩
  obtain ⟨BB, hBBe⟩ : ∃ BB, XB.extract (PN + 1) XB.size = BB := ⟨_, rfl⟩
  have hABl : AB.data.toList = A := by
    rw [← hABe]
    simp [hAB, ← hPN]
  have hBBl : BB.data.toList = B := by
    rw [← hBBe]
    simp [hAB, ← hPN, hsz]
  have hpl : PN < XB.size := by omega
  have hp112 : XB[PN]'hpl = 112 := by
    have h1 := byte_at hpl rfl
    rw [hAB, List.getElem?_append_right (by omega), hPN, Nat.sub_self] at h1
    exact (Option.some.inj h1).symm
  have hABs : AB.size ≤ 300 := by rw [ba_size, hABl]; omega
  have hBBs : BB.size ≤ 300 := by rw [ba_size, hBBl]; omega
  have NA := fun W => refnumber_good AB (by rw [ba_size, hABl]; exact ha2) (by rw [hABl]; exact ha) W
  rw [hABl, hm] at NA
  have NA := Lib.hid NA
  have NB := fun W => refnumber_good BB (by rw [ba_size, hBBl]; exact hbl) (by rw [hBBl]; exact hb) W
  rw [hBBl, he] at NB
  have NB := Lib.hid NB
  have k1 : (e != 0) = true := by rw [bne_iff_ne]; exact c2
  have k2 : (e == 0) = false := by rw [beq_eq_false_iff_ne]; exact c2
  clear ha ha2 hm hb hbl he c2
  subst c1
  clear hA hAB hPN hABl hBBl hsz
  go_enter Tryz.func33, Tryz.ntmps33
  go_upto_if 20 with fail
  rw [HW2.out, HX.out]
  go_cut [5] (fun t wx => t = .string XB ∧ wx = w2)
  case first =>
    cases b45 with
    | true =>
      have E := HP.out.cut rfl
      have hss : decide (1 ≤ s.size) = true := decide_eq_true (by omega)
      have hss2 : (1 : Int) ≤ s.size := by omega
      go_wp2_with fail
      go_meet
      exact ⟨rfl, rfl⟩
    | false =>
      have E := Lib.hid (HP.out.whole rfl)
      go_wp2_with fail
      go_meet
      exact ⟨by rw [E.out], rfl⟩
  case rest =>
    obtain ⟨rfl, hww⟩ := hcut
    subst hww
    go_wp2_with fail
    go_loopg [6] PN (fun g t wx => ∃ k : Nat, t = .int .i64 (k : Int) ∧ wx = wc ∧ k ≤ PN ∧ PN ≤ k + g)
    case atStart => exact ⟨0, rfl, rfl, by omega, by omega⟩
    case round =>
      obtain ⟨k, rfl, hww, hkp, hg⟩ := hrel
      subst hww
      by_cases hkl : k < PN
      · obtain ⟨g, rfl⟩ : ∃ g, gk = g + 1 := ⟨gk - 1, by omega⟩
        have hks : k < XB.size := by omega
        have hk0 : (0 : Int) ≤ (k : Int) := by omega
        have hki : (k : Int) < XB.size := by omega
        have n1 : decide (k < XB.size) = true := decide_eq_true hks
        obtain ⟨e0, he⟩ : ∃ e : UInt8, XB[k]'hks = e := ⟨_, rfl⟩
        have hne := HNO.out k e0 hkl (byte_at hks he)
        have n2 : ((e0.toNat : Int) == 112) = false := byte_eq (c := 112) hne
        have n3 : ((e0.toNat : Int) != 112) = true := by rw [bne, n2]; rfl
        go_wp2_with fail
        go_roundg g
        case measure => omega
        case rel => exact ⟨k + 1, by go_num, rfl, hkl, Nat.le_trans hg (Nat.le_of_eq (by rw [Nat.add_assoc, Nat.add_comm 1 g]))⟩
      · obtain rfl : k = PN := by omega
        have hk0 : (0 : Int) ≤ (k : Int) := by omega
        have hki : (k : Int) < XB.size := by omega
        have hkn : (k : Int) ≤ XB.size := by omega
        have hkn2 : k ≤ XB.size := by omega
        have hkn3 : k + 1 ≤ XB.size := by omega
        have n4 : decide (k < XB.size) = true := decide_eq_true hpl
        have n5 : (((112 : UInt8).toNat : Int) == 112) = true := rfl
        have n6 : (((112 : UInt8).toNat : Int) != 112) = false := rfl
        have n7 : ((k : Int) == (XB.size : Int)) = false := by rw [beq_eq_false_iff_ne]; omega
        have n8 : IntKind.i64.wrap ((k : Int) + 1) = ((k + 1 : Nat) : Int) := by rw [show (k : Int) + 1 = ((k + 1 : Nat) : Int) by omega]; exact IntWalk.i64_in _ (by omega)
        have n9 : ((k + 1 : Nat) : Int) ≤ XB.size := by omega
        clear hkl
        go_wp2_with fail
        refine (NA.out _).mono ?_
        rintro x w5 ⟨rfl, rfl⟩
        go_wp2_with fail
        refine (NB.out _).mono ?_
        rintro x w6 ⟨rfl, rfl⟩
        go_wp2_with fail
        refine bodyPost_ret (v := .tuple #[.agg #[.int .i64 0, .bool false, .int .u64 0, .int .i64 0], .bool false]) (by simp [results, Tryz.results33, go_sem, z0, z1, z2, z3]) rfl ?_
        refine ⟨rfl, ?_⟩
        rw [HX.out]
        exact (((hb2.setCell (p := ⟨X, 0, none⟩) (Nat.le_refl _) _).setCell (p := ⟨X, 1, none⟩) (Nat.le_refl _) _).setCell (p := ⟨X, 2, none⟩) (Nat.le_refl _) _).setCell (p := ⟨X, 3, none⟩) (Nat.le_refl _) _
set_option maxHeartbeats 4000000 in
set_option maxRecDepth 100000 in
theorem refof_zero (s XB : ByteArray) (b45 : Bool) (hp : OfPre s XB b45) (hi : XB.data.toList ≠ [105, 110, 102]) (hn : s.data.toList ≠ [110, 97, 110]) (A B : List UInt8) (hAB : XB.data.toList = A ++ 112 :: B) (hA : ∀ b ∈ A, b ≠ 112) (m e : Int) (ha : Fl.vB A = true) (ha2 : A.length ≤ 18) (hm : Fl.numI A = m) (hb : Fl.vB B = true) (hbl : B.length ≤ 18) (he : Fl.numI B = e) (c1 : m = 0) (c2 : e = 0) (w : World) : Calls Tryz.prog 33 #[.string s] w fun x w' => x = .returned (.tuple #[.agg #[.int .i64 0, .bool b45, .int .u64 0, .int .i64 0], .bool true]) ∧ Below w.heap.size w w' := by
  have HP := Lib.hid hp
  obtain ⟨w2, hw2⟩ : ∃ w2 : World, w.alloc (.cells #[.int .i64 0, .bool false, .int .u64 0, .int .i64 0] 24) = w2 := ⟨_, rfl⟩
  obtain ⟨X, hX⟩ : ∃ X, w.heap.size = X := ⟨_, rfl⟩
  have hXc := heap_alloc_new w (.cells #[.int .i64 0, .bool false, .int .u64 0, .int .i64 0] 24)
  have hb2 : Below X w w2 := by rw [← hw2, ← hX]; exact (Below.refl _ _).alloc (Nat.le_refl _) _
  rw [hw2, hX] at hXc
  have HW2 := Lib.hid hw2
  have HX := Lib.hid hX
  have z0 := at_block hXc 0 _ rfl
  have z1 := at_block hXc 1 _ rfl
  have z2 := at_block hXc 2 _ rfl
  have z3 := at_block hXc 3 _ rfl
  have f0 := free_block hXc 0
  have f1 := free_block hXc 1
  have f2 := free_block hXc 2
  have f3 := free_block hXc 3
  have hlt0 := hp.pos
  have hin : decide (0 < s.size) = true := decide_eq_true hp.pos
  have hi00 : (0 : Int) < s.size := by have := hp.pos; omega
  have hsle := hp.le
  have hxle := hp.len
  obtain ⟨d0, hd0⟩ : ∃ d : UInt8, s[0]'hlt0 = d := ⟨_, rfl⟩
  have hb45 : ((d0.toNat : Int) == 45) = b45 := by rw [← hd0]; exact hp.head hlt0
  clear hp hw2 hX hXc
  have n1 : (XB.toList == [105, 110, 102]) = false := ba_list' hi
  have n2 : (s.toList == [110, 97, 110]) = false := ba_list' hn
  clear hi hn
  obtain ⟨PN, hPN⟩ : ∃ PN, A.length = PN := ⟨_, rfl⟩
  have hsz : XB.size = PN + 1 + B.length := by rw [ba_size, hAB, List.length_append, List.length_cons, hPN]; omega
  have HNO := Lib.hid (show ∀ j b, j < PN → XB.data.toList[j]? = some b → b ≠ 112 from fun j b hj hb => by
    rw [hAB, List.getElem?_append_left (by omega)] at hb
    exact hA b (List.mem_of_getElem? hb))
  obtain ⟨AB, hABe⟩ : ∃ AB, XB.extract 0 PN = AB := ⟨_, rfl⟩
  obtain ⟨BB, hBBe⟩ : ∃ BB, XB.extract (PN + 1) XB.size = BB := ⟨_, rfl⟩
  have hABl : AB.data.toList = A := by
    rw [← hABe]
    simp [hAB, ← hPN]
  have hBBl : BB.data.toList = B := by
    rw [← hBBe]
    simp [hAB, ← hPN, hsz]
  have hpl : PN < XB.size := by omega
  have hp112 : XB[PN]'hpl = 112 := by
    have h1 := byte_at hpl rfl
    rw [hAB, List.getElem?_append_right (by omega), hPN, Nat.sub_self] at h1
    exact (Option.some.inj h1).symm
  have hABs : AB.size ≤ 300 := by rw [ba_size, hABl]; omega
  have hBBs : BB.size ≤ 300 := by rw [ba_size, hBBl]; omega
  have NA := fun W => refnumber_good AB (by rw [ba_size, hABl]; exact ha2) (by rw [hABl]; exact ha) W
  rw [hABl, hm] at NA
  have NA := Lib.hid NA
  have NB := fun W => refnumber_good BB (by rw [ba_size, hBBl]; exact hbl) (by rw [hBBl]; exact hb) W
  rw [hBBl, he] at NB
  have NB := Lib.hid NB
  clear ha ha2 hm hb hbl he
  subst c1
  subst c2
  clear hA hAB hPN hABl hBBl hsz
  go_enter Tryz.func33, Tryz.ntmps33
  go_upto_if 20 with fail
  rw [HW2.out, HX.out]
  go_cut [5] (fun t wx => t = .string XB ∧ wx = w2)
  case first =>
    cases b45 with
    | true =>
      have E := HP.out.cut rfl
      have hss : decide (1 ≤ s.size) = true := decide_eq_true (by omega)
      have hss2 : (1 : Int) ≤ s.size := by omega
      go_wp2_with fail
      go_meet
      exact ⟨rfl, rfl⟩
    | false =>
      have E := Lib.hid (HP.out.whole rfl)
      go_wp2_with fail
      go_meet
      exact ⟨by rw [E.out], rfl⟩
  case rest =>
    obtain ⟨rfl, hww⟩ := hcut
    subst hww
    go_wp2_with fail
    go_loopg [6] PN (fun g t wx => ∃ k : Nat, t = .int .i64 (k : Int) ∧ wx = wc ∧ k ≤ PN ∧ PN ≤ k + g)
    case atStart => exact ⟨0, rfl, rfl, by omega, by omega⟩
    case round =>
      obtain ⟨k, rfl, hww, hkp, hg⟩ := hrel
      subst hww
      by_cases hkl : k < PN
      · obtain ⟨g, rfl⟩ : ∃ g, gk = g + 1 := ⟨gk - 1, by omega⟩
        have hks : k < XB.size := by omega
        have hk0 : (0 : Int) ≤ (k : Int) := by omega
        have hki : (k : Int) < XB.size := by omega
        have n1 : decide (k < XB.size) = true := decide_eq_true hks
        obtain ⟨e0, he⟩ : ∃ e : UInt8, XB[k]'hks = e := ⟨_, rfl⟩
        have hne := HNO.out k e0 hkl (byte_at hks he)
        have n2 : ((e0.toNat : Int) == 112) = false := byte_eq (c := 112) hne
        have n3 : ((e0.toNat : Int) != 112) = true := by rw [bne, n2]; rfl
        go_wp2_with fail
        go_roundg g
        case measure => omega
        case rel => exact ⟨k + 1, by go_num, rfl, hkl, Nat.le_trans hg (Nat.le_of_eq (by rw [Nat.add_assoc, Nat.add_comm 1 g]))⟩
      · obtain rfl : k = PN := by omega
        have hk0 : (0 : Int) ≤ (k : Int) := by omega
        have hki : (k : Int) < XB.size := by omega
        have hkn : (k : Int) ≤ XB.size := by omega
        have hkn2 : k ≤ XB.size := by omega
        have hkn3 : k + 1 ≤ XB.size := by omega
        have n4 : decide (k < XB.size) = true := decide_eq_true hpl
        have n5 : (((112 : UInt8).toNat : Int) == 112) = true := rfl
        have n6 : (((112 : UInt8).toNat : Int) != 112) = false := rfl
        have n7 : ((k : Int) == (XB.size : Int)) = false := by rw [beq_eq_false_iff_ne]; omega
        have n8 : IntKind.i64.wrap ((k : Int) + 1) = ((k + 1 : Nat) : Int) := by rw [show (k : Int) + 1 = ((k + 1 : Nat) : Int) by omega]; exact IntWalk.i64_in _ (by omega)
        have n9 : ((k + 1 : Nat) : Int) ≤ XB.size := by omega
        clear hkl
        go_wp2_with fail
        refine (NA.out _).mono ?_
        rintro x w5 ⟨rfl, rfl⟩
        go_wp2_with fail
        refine (NB.out _).mono ?_
        rintro x w6 ⟨rfl, rfl⟩
        go_wp2_with fail
        refine bodyPost_ret (v := .tuple #[.agg #[.int .i64 0, .bool b45, .int .u64 0, .int .i64 0], .bool true]) (by simp [results, Tryz.results33, go_sem, z0, z1, z2, z3]) rfl ?_
        refine ⟨rfl, ?_⟩
        rw [HX.out]
        exact (((hb2.setCell (p := ⟨X, 0, none⟩) (Nat.le_refl _) _).setCell (p := ⟨X, 1, none⟩) (Nat.le_refl _) _).setCell (p := ⟨X, 2, none⟩) (Nat.le_refl _) _).setCell (p := ⟨X, 3, none⟩) (Nat.le_refl _) _
set_option maxHeartbeats 4000000 in
set_option maxRecDepth 100000 in
theorem refof_even (s XB : ByteArray) (b45 : Bool) (hp : OfPre s XB b45) (hi : XB.data.toList ≠ [105, 110, 102]) (hn : s.data.toList ≠ [110, 97, 110]) (A B : List UInt8) (hAB : XB.data.toList = A ++ 112 :: B) (hA : ∀ b ∈ A, b ≠ 112) (m e : Int) (ha : Fl.vB A = true) (ha2 : A.length ≤ 18) (hm : Fl.numI A = m) (hb : Fl.vB B = true) (hbl : B.length ≤ 18) (he : Fl.numI B = e) (M : Nat) (c0 : m = (M : Int)) (c1 : 0 < M) (c9 : M < 1000000000000000000) (c2 : M % 2 = 0) (w : World) : Calls Tryz.prog 33 #[.string s] w fun x w' => x = .returned (.tuple #[.agg #[.int .i64 0, .bool false, .int .u64 0, .int .i64 0], .bool false]) ∧ Below w.heap.size w w' := by
  have HP := Lib.hid hp
  obtain ⟨w2, hw2⟩ : ∃ w2 : World, w.alloc (.cells #[.int .i64 0, .bool false, .int .u64 0, .int .i64 0] 24) = w2 := ⟨_, rfl⟩
  obtain ⟨X, hX⟩ : ∃ X, w.heap.size = X := ⟨_, rfl⟩
  have hXc := heap_alloc_new w (.cells #[.int .i64 0, .bool false, .int .u64 0, .int .i64 0] 24)
  have hb2 : Below X w w2 := by rw [← hw2, ← hX]; exact (Below.refl _ _).alloc (Nat.le_refl _) _
  rw [hw2, hX] at hXc
  have HW2 := Lib.hid hw2
  have HX := Lib.hid hX
  have z0 := at_block hXc 0 _ rfl
  have z1 := at_block hXc 1 _ rfl
  have z2 := at_block hXc 2 _ rfl
  have z3 := at_block hXc 3 _ rfl
  have f0 := free_block hXc 0
  have f1 := free_block hXc 1
  have f2 := free_block hXc 2
  have f3 := free_block hXc 3
  have hlt0 := hp.pos
  have hin : decide (0 < s.size) = true := decide_eq_true hp.pos
  have hi00 : (0 : Int) < s.size := by have := hp.pos; omega
  have hsle := hp.le
  have hxle := hp.len
  obtain ⟨d0, hd0⟩ : ∃ d : UInt8, s[0]'hlt0 = d := ⟨_, rfl⟩
  have hb45 : ((d0.toNat : Int) == 45) = b45 := by rw [← hd0]; exact hp.head hlt0
  clear hp hw2 hX hXc
  have n1 : (XB.toList == [105, 110, 102]) = false := ba_list' hi
  have n2 : (s.toList == [110, 97, 110]) = false := ba_list' hn
  clear hi hn
  obtain ⟨PN, hPN⟩ : ∃ PN, A.length = PN := ⟨_, rfl⟩
  have hsz : XB.size = PN + 1 + B.length := by rw [ba_size, hAB, List.length_append, List.length_cons, hPN]; omega
  have HNO := Lib.hid (show ∀ j b, j < PN → XB.data.toList[j]? = some b → b ≠ 112 from fun j b hj hb => by
    rw [hAB, List.getElem?_append_left (by omega)] at hb
    exact hA b (List.mem_of_getElem? hb))
  obtain ⟨AB, hABe⟩ : ∃ AB, XB.extract 0 PN = AB := ⟨_, rfl⟩
  obtain ⟨BB, hBBe⟩ : ∃ BB, XB.extract (PN + 1) XB.size = BB := ⟨_, rfl⟩
  have hABl : AB.data.toList = A := by
    rw [← hABe]
    simp [hAB, ← hPN]
  have hBBl : BB.data.toList = B := by
    rw [← hBBe]
    simp [hAB, ← hPN, hsz]
  have hpl : PN < XB.size := by omega
  have hp112 : XB[PN]'hpl = 112 := by
    have h1 := byte_at hpl rfl
    rw [hAB, List.getElem?_append_right (by omega), hPN, Nat.sub_self] at h1
    exact (Option.some.inj h1).symm
  have hABs : AB.size ≤ 300 := by rw [ba_size, hABl]; omega
  have hBBs : BB.size ≤ 300 := by rw [ba_size, hBBl]; omega
  have NA := fun W => refnumber_good AB (by rw [ba_size, hABl]; exact ha2) (by rw [hABl]; exact ha) W
  rw [hABl, hm] at NA
  have NA := Lib.hid NA
  have NB := fun W => refnumber_good BB (by rw [ba_size, hBBl]; exact hbl) (by rw [hBBl]; exact hb) W
  rw [hBBl, he] at NB
  have NB := Lib.hid NB
  have k1 : decide (m < 0) = false := decide_eq_false (by omega)
  have k2 : (m == 0) = false := by rw [beq_eq_false_iff_ne]; omega
  have k3 : (m != 0) = true := by rw [bne_iff_ne]; omega
  have k4 : m % 2 = 0 := by omega
  have k5 : Int.tmod m 2 = 0 := by rw [Int.tmod_eq_emod_of_nonneg (by omega)]; exact k4
  clear ha ha2 hm hb hbl he c0 c1 c2 c9
  clear hA hAB hPN hABl hBBl hsz
  go_enter Tryz.func33, Tryz.ntmps33
  go_upto_if 20 with fail
  rw [HW2.out, HX.out]
  go_cut [5] (fun t wx => t = .string XB ∧ wx = w2)
  case first =>
    cases b45 with
    | true =>
      have E := HP.out.cut rfl
      have hss : decide (1 ≤ s.size) = true := decide_eq_true (by omega)
      have hss2 : (1 : Int) ≤ s.size := by omega
      go_wp2_with fail
      go_meet
      exact ⟨rfl, rfl⟩
    | false =>
      have E := Lib.hid (HP.out.whole rfl)
      go_wp2_with fail
      go_meet
      exact ⟨by rw [E.out], rfl⟩
  case rest =>
    obtain ⟨rfl, hww⟩ := hcut
    subst hww
    go_wp2_with fail
    go_loopg [6] PN (fun g t wx => ∃ k : Nat, t = .int .i64 (k : Int) ∧ wx = wc ∧ k ≤ PN ∧ PN ≤ k + g)
    case atStart => exact ⟨0, rfl, rfl, by omega, by omega⟩
    case round =>
      obtain ⟨k, rfl, hww, hkp, hg⟩ := hrel
      subst hww
      by_cases hkl : k < PN
      · obtain ⟨g, rfl⟩ : ∃ g, gk = g + 1 := ⟨gk - 1, by omega⟩
        have hks : k < XB.size := by omega
        have hk0 : (0 : Int) ≤ (k : Int) := by omega
        have hki : (k : Int) < XB.size := by omega
        have n1 : decide (k < XB.size) = true := decide_eq_true hks
        obtain ⟨e0, he⟩ : ∃ e : UInt8, XB[k]'hks = e := ⟨_, rfl⟩
        have hne := HNO.out k e0 hkl (byte_at hks he)
        have n2 : ((e0.toNat : Int) == 112) = false := byte_eq (c := 112) hne
        have n3 : ((e0.toNat : Int) != 112) = true := by rw [bne, n2]; rfl
        go_wp2_with fail
        go_roundg g
        case measure => omega
        case rel => exact ⟨k + 1, by go_num, rfl, hkl, Nat.le_trans hg (Nat.le_of_eq (by rw [Nat.add_assoc, Nat.add_comm 1 g]))⟩
      · obtain rfl : k = PN := by omega
        have hk0 : (0 : Int) ≤ (k : Int) := by omega
        have hki : (k : Int) < XB.size := by omega
        have hkn : (k : Int) ≤ XB.size := by omega
        have hkn2 : k ≤ XB.size := by omega
        have hkn3 : k + 1 ≤ XB.size := by omega
        have n4 : decide (k < XB.size) = true := decide_eq_true hpl
        have n5 : (((112 : UInt8).toNat : Int) == 112) = true := rfl
        have n6 : (((112 : UInt8).toNat : Int) != 112) = false := rfl
        have n7 : ((k : Int) == (XB.size : Int)) = false := by rw [beq_eq_false_iff_ne]; omega
        have n8 : IntKind.i64.wrap ((k : Int) + 1) = ((k + 1 : Nat) : Int) := by rw [show (k : Int) + 1 = ((k + 1 : Nat) : Int) by omega]; exact IntWalk.i64_in _ (by omega)
        have n9 : ((k + 1 : Nat) : Int) ≤ XB.size := by omega
        clear hkl
        go_wp2_with fail
        refine (NA.out _).mono ?_
        rintro x w5 ⟨rfl, rfl⟩
        go_wp2_with fail
        refine (NB.out _).mono ?_
        rintro x w6 ⟨rfl, rfl⟩
        go_wp2_with fail
        refine bodyPost_ret (v := .tuple #[.agg #[.int .i64 0, .bool false, .int .u64 0, .int .i64 0], .bool false]) (by simp [results, Tryz.results33, go_sem, z0, z1, z2, z3]) rfl ?_
        refine ⟨rfl, ?_⟩
        rw [HX.out]
        exact (((hb2.setCell (p := ⟨X, 0, none⟩) (Nat.le_refl _) _).setCell (p := ⟨X, 1, none⟩) (Nat.le_refl _) _).setCell (p := ⟨X, 2, none⟩) (Nat.le_refl _) _).setCell (p := ⟨X, 3, none⟩) (Nat.le_refl _) _
set_option maxHeartbeats 4000000 in
set_option maxRecDepth 100000 in
theorem refof_long (s XB : ByteArray) (b45 : Bool) (hp : OfPre s XB b45) (hi : XB.data.toList ≠ [105, 110, 102]) (hn : s.data.toList ≠ [110, 97, 110]) (A B : List UInt8) (hAB : XB.data.toList = A ++ 112 :: B) (hA : ∀ b ∈ A, b ≠ 112) (m e : Int) (ha : Fl.vB A = true) (ha2 : A.length ≤ 18) (hm : Fl.numI A = m) (hb : Fl.vB B = true) (hbl : B.length ≤ 18) (he : Fl.numI B = e) (M : Nat) (c0 : m = (M : Int)) (c1 : 0 < M) (c9 : M < 1000000000000000000) (c2 : M % 2 = 1) (c3 : 53 < Lib.bitLen M) (w : World) : Calls Tryz.prog 33 #[.string s] w fun x w' => x = .returned (.tuple #[.agg #[.int .i64 0, .bool false, .int .u64 0, .int .i64 0], .bool false]) ∧ Below w.heap.size w w' := by
  have HP := Lib.hid hp
  obtain ⟨w2, hw2⟩ : ∃ w2 : World, w.alloc (.cells #[.int .i64 0, .bool false, .int .u64 0, .int .i64 0] 24) = w2 := ⟨_, rfl⟩
  obtain ⟨X, hX⟩ : ∃ X, w.heap.size = X := ⟨_, rfl⟩
  have hXc := heap_alloc_new w (.cells #[.int .i64 0, .bool false, .int .u64 0, .int .i64 0] 24)
  have hb2 : Below X w w2 := by rw [← hw2, ← hX]; exact (Below.refl _ _).alloc (Nat.le_refl _) _
  rw [hw2, hX] at hXc
  have HW2 := Lib.hid hw2
  have HX := Lib.hid hX
  have z0 := at_block hXc 0 _ rfl
  have z1 := at_block hXc 1 _ rfl
  have z2 := at_block hXc 2 _ rfl
  have z3 := at_block hXc 3 _ rfl
  have f0 := free_block hXc 0
  have f1 := free_block hXc 1
  have f2 := free_block hXc 2
  have f3 := free_block hXc 3
  have hlt0 := hp.pos
  have hin : decide (0 < s.size) = true := decide_eq_true hp.pos
  have hi00 : (0 : Int) < s.size := by have := hp.pos; omega
  have hsle := hp.le
  have hxle := hp.len
  obtain ⟨d0, hd0⟩ : ∃ d : UInt8, s[0]'hlt0 = d := ⟨_, rfl⟩
  have hb45 : ((d0.toNat : Int) == 45) = b45 := by rw [← hd0]; exact hp.head hlt0
  clear hp hw2 hX hXc
  have n1 : (XB.toList == [105, 110, 102]) = false := ba_list' hi
  have n2 : (s.toList == [110, 97, 110]) = false := ba_list' hn
  clear hi hn
  obtain ⟨PN, hPN⟩ : ∃ PN, A.length = PN := ⟨_, rfl⟩
  have hsz : XB.size = PN + 1 + B.length := by rw [ba_size, hAB, List.length_append, List.length_cons, hPN]; omega
  have HNO := Lib.hid (show ∀ j b, j < PN → XB.data.toList[j]? = some b → b ≠ 112 from fun j b hj hb => by
    rw [hAB, List.getElem?_append_left (by omega)] at hb
    exact hA b (List.mem_of_getElem? hb))
  obtain ⟨AB, hABe⟩ : ∃ AB, XB.extract 0 PN = AB := ⟨_, rfl⟩
  obtain ⟨BB, hBBe⟩ : ∃ BB, XB.extract (PN + 1) XB.size = BB := ⟨_, rfl⟩
  have hABl : AB.data.toList = A := by
    rw [← hABe]
    simp [hAB, ← hPN]
  have hBBl : BB.data.toList = B := by
    rw [← hBBe]
    simp [hAB, ← hPN, hsz]
  have hpl : PN < XB.size := by omega
  have hp112 : XB[PN]'hpl = 112 := by
    have h1 := byte_at hpl rfl
    rw [hAB, List.getElem?_append_right (by omega), hPN, Nat.sub_self] at h1
    exact (Option.some.inj h1).symm
  have hABs : AB.size ≤ 300 := by rw [ba_size, hABl]; omega
  have hBBs : BB.size ≤ 300 := by rw [ba_size, hBBl]; omega
  have NA := fun W => refnumber_good AB (by rw [ba_size, hABl]; exact ha2) (by rw [hABl]; exact ha) W
  rw [hABl, hm] at NA
  have NA := Lib.hid NA
  have NB := fun W => refnumber_good BB (by rw [ba_size, hBBl]; exact hbl) (by rw [hBBl]; exact hb) W
  rw [hBBl, he] at NB
  have NB := Lib.hid NB
  have k1 : decide (m < 0) = false := decide_eq_false (by omega)
  have k2 : (m == 0) = false := by rw [beq_eq_false_iff_ne]; omega
  have k3 : (m != 0) = true := by rw [bne_iff_ne]; omega
  have k4 : m % 2 = 1 := by omega
  have k5 : Int.tmod m 2 = 1 := by rw [Int.tmod_eq_emod_of_nonneg (by omega)]; exact k4
  have k6 : IntKind.u64.wrap m = (M : Int) := by rw [c0, IntKind.wrap_u64]; omega
  have BL := fun W => bitlen_any M W (by omega)
  obtain ⟨L, hL⟩ : ∃ L, Lib.bitLen M = L := ⟨_, rfl⟩
  rw [hL] at BL c3
  have BL := Lib.hid BL
  have k7 : decide (53 < L) = true := decide_eq_true c3
  have k8 : decide ((53 : Int) < (L : Int)) = true := decide_eq_true (by omega)
  clear ha ha2 hm hb hbl he c0 c1 c2 c3 c9 hL
  clear hA hAB hPN hABl hBBl hsz
  go_enter Tryz.func33, Tryz.ntmps33
  go_upto_if 20 with fail
  rw [HW2.out, HX.out]
  go_cut [5] (fun t wx => t = .string XB ∧ wx = w2)
  case first =>
    cases b45 with
    | true =>
      have E := HP.out.cut rfl
      have hss : decide (1 ≤ s.size) = true := decide_eq_true (by omega)
      have hss2 : (1 : Int) ≤ s.size := by omega
      go_wp2_with fail
      go_meet
      exact ⟨rfl, rfl⟩
    | false =>
      have E := Lib.hid (HP.out.whole rfl)
      go_wp2_with fail
      go_meet
      exact ⟨by rw [E.out], rfl⟩
  case rest =>
    obtain ⟨rfl, hww⟩ := hcut
    subst hww
    go_wp2_with fail
    go_loopg [6] PN (fun g t wx => ∃ k : Nat, t = .int .i64 (k : Int) ∧ wx = wc ∧ k ≤ PN ∧ PN ≤ k + g)
    case atStart => exact ⟨0, rfl, rfl, by omega, by omega⟩
    case round =>
      obtain ⟨k, rfl, hww, hkp, hg⟩ := hrel
      subst hww
      by_cases hkl : k < PN
      · obtain ⟨g, rfl⟩ : ∃ g, gk = g + 1 := ⟨gk - 1, by omega⟩
        have hks : k < XB.size := by omega
        have hk0 : (0 : Int) ≤ (k : Int) := by omega
        have hki : (k : Int) < XB.size := by omega
        have n1 : decide (k < XB.size) = true := decide_eq_true hks
        obtain ⟨e0, he⟩ : ∃ e : UInt8, XB[k]'hks = e := ⟨_, rfl⟩
        have hne := HNO.out k e0 hkl (byte_at hks he)
        have n2 : ((e0.toNat : Int) == 112) = false := byte_eq (c := 112) hne
        have n3 : ((e0.toNat : Int) != 112) = true := by rw [bne, n2]; rfl
        go_wp2_with fail
        go_roundg g
        case measure => omega
        case rel => exact ⟨k + 1, by go_num, rfl, hkl, Nat.le_trans hg (Nat.le_of_eq (by rw [Nat.add_assoc, Nat.add_comm 1 g]))⟩
      · obtain rfl : k = PN := by omega
        have hk0 : (0 : Int) ≤ (k : Int) := by omega
        have hki : (k : Int) < XB.size := by omega
        have hkn : (k : Int) ≤ XB.size := by omega
        have hkn2 : k ≤ XB.size := by omega
        have hkn3 : k + 1 ≤ XB.size := by omega
        have n4 : decide (k < XB.size) = true := decide_eq_true hpl
        have n5 : (((112 : UInt8).toNat : Int) == 112) = true := rfl
        have n6 : (((112 : UInt8).toNat : Int) != 112) = false := rfl
        have n7 : ((k : Int) == (XB.size : Int)) = false := by rw [beq_eq_false_iff_ne]; omega
        have n8 : IntKind.i64.wrap ((k : Int) + 1) = ((k + 1 : Nat) : Int) := by rw [show (k : Int) + 1 = ((k + 1 : Nat) : Int) by omega]; exact IntWalk.i64_in _ (by omega)
        have n9 : ((k + 1 : Nat) : Int) ≤ XB.size := by omega
        clear hkl
        go_wp2_with fail
        refine (NA.out _).mono ?_
        rintro x w5 ⟨rfl, rfl⟩
        go_wp2_with fail
        refine (NB.out _).mono ?_
        rintro x w6 ⟨rfl, rfl⟩
        go_wp2_with fail
        refine (BL.out _).mono ?_
        rintro x w7 ⟨rfl, rfl⟩
        go_wp2_with fail
        refine bodyPost_ret (v := .tuple #[.agg #[.int .i64 0, .bool false, .int .u64 0, .int .i64 0], .bool false]) (by simp [results, Tryz.results33, go_sem, z0, z1, z2, z3]) rfl ?_
        refine ⟨rfl, ?_⟩
        rw [HX.out]
        exact (((hb2.setCell (p := ⟨X, 0, none⟩) (Nat.le_refl _) _).setCell (p := ⟨X, 1, none⟩) (Nat.le_refl _) _).setCell (p := ⟨X, 2, none⟩) (Nat.le_refl _) _).setCell (p := ⟨X, 3, none⟩) (Nat.le_refl _) _
set_option maxHeartbeats 4000000 in
set_option maxRecDepth 100000 in
theorem refof_low (s XB : ByteArray) (b45 : Bool) (hp : OfPre s XB b45) (hi : XB.data.toList ≠ [105, 110, 102]) (hn : s.data.toList ≠ [110, 97, 110]) (A B : List UInt8) (hAB : XB.data.toList = A ++ 112 :: B) (hA : ∀ b ∈ A, b ≠ 112) (m e : Int) (ha : Fl.vB A = true) (ha2 : A.length ≤ 18) (hm : Fl.numI A = m) (hb : Fl.vB B = true) (hbl : B.length ≤ 18) (he : Fl.numI B = e) (M : Nat) (c0 : m = (M : Int)) (c1 : 0 < M) (c9 : M < 1000000000000000000) (c2 : M % 2 = 1) (c3 : Lib.bitLen M ≤ 53) (c4 : e < -1074) (w : World) : Calls Tryz.prog 33 #[.string s] w fun x w' => x = .returned (.tuple #[.agg #[.int .i64 0, .bool false, .int .u64 0, .int .i64 0], .bool false]) ∧ Below w.heap.size w w' := by
  have HP := Lib.hid hp
  obtain ⟨w2, hw2⟩ : ∃ w2 : World, w.alloc (.cells #[.int .i64 0, .bool false, .int .u64 0, .int .i64 0] 24) = w2 := ⟨_, rfl⟩
  obtain ⟨X, hX⟩ : ∃ X, w.heap.size = X := ⟨_, rfl⟩
  have hXc := heap_alloc_new w (.cells #[.int .i64 0, .bool false, .int .u64 0, .int .i64 0] 24)
  have hb2 : Below X w w2 := by rw [← hw2, ← hX]; exact (Below.refl _ _).alloc (Nat.le_refl _) _
  rw [hw2, hX] at hXc
  have HW2 := Lib.hid hw2
  have HX := Lib.hid hX
  have z0 := at_block hXc 0 _ rfl
  have z1 := at_block hXc 1 _ rfl
  have z2 := at_block hXc 2 _ rfl
  have z3 := at_block hXc 3 _ rfl
  have f0 := free_block hXc 0
  have f1 := free_block hXc 1
  have f2 := free_block hXc 2
  have f3 := free_block hXc 3
  have hlt0 := hp.pos
  have hin : decide (0 < s.size) = true := decide_eq_true hp.pos
  have hi00 : (0 : Int) < s.size := by have := hp.pos; omega
  have hsle := hp.le
  have hxle := hp.len
  obtain ⟨d0, hd0⟩ : ∃ d : UInt8, s[0]'hlt0 = d := ⟨_, rfl⟩
  have hb45 : ((d0.toNat : Int) == 45) = b45 := by rw [← hd0]; exact hp.head hlt0
  clear hp hw2 hX hXc
  have n1 : (XB.toList == [105, 110, 102]) = false := ba_list' hi
  have n2 : (s.toList == [110, 97, 110]) = false := ba_list' hn
  clear hi hn
  obtain ⟨PN, hPN⟩ : ∃ PN, A.length = PN := ⟨_, rfl⟩
  have hsz : XB.size = PN + 1 + B.length := by rw [ba_size, hAB, List.length_append, List.length_cons, hPN]; omega
  have HNO := Lib.hid (show ∀ j b, j < PN → XB.data.toList[j]? = some b → b ≠ 112 from fun j b hj hb => by
    rw [hAB, List.getElem?_append_left (by omega)] at hb
    exact hA b (List.mem_of_getElem? hb))
  obtain ⟨AB, hABe⟩ : ∃ AB, XB.extract 0 PN = AB := ⟨_, rfl⟩
  obtain ⟨BB, hBBe⟩ : ∃ BB, XB.extract (PN + 1) XB.size = BB := ⟨_, rfl⟩
  have hABl : AB.data.toList = A := by
    rw [← hABe]
    simp [hAB, ← hPN]
  have hBBl : BB.data.toList = B := by
    rw [← hBBe]
    simp [hAB, ← hPN, hsz]
  have hpl : PN < XB.size := by omega
  have hp112 : XB[PN]'hpl = 112 := by
    have h1 := byte_at hpl rfl
    rw [hAB, List.getElem?_append_right (by omega), hPN, Nat.sub_self] at h1
    exact (Option.some.inj h1).symm
  have hABs : AB.size ≤ 300 := by rw [ba_size, hABl]; omega
  have hBBs : BB.size ≤ 300 := by rw [ba_size, hBBl]; omega
  have NA := fun W => refnumber_good AB (by rw [ba_size, hABl]; exact ha2) (by rw [hABl]; exact ha) W
  rw [hABl, hm] at NA
  have NA := Lib.hid NA
  have NB := fun W => refnumber_good BB (by rw [ba_size, hBBl]; exact hbl) (by rw [hBBl]; exact hb) W
  rw [hBBl, he] at NB
  have NB := Lib.hid NB
  have k1 : decide (m < 0) = false := decide_eq_false (by omega)
  have k2 : (m == 0) = false := by rw [beq_eq_false_iff_ne]; omega
  have k3 : (m != 0) = true := by rw [bne_iff_ne]; omega
  have k4 : m % 2 = 1 := by omega
  have k5 : Int.tmod m 2 = 1 := by rw [Int.tmod_eq_emod_of_nonneg (by omega)]; exact k4
  have k6 : IntKind.u64.wrap m = (M : Int) := by rw [c0, IntKind.wrap_u64]; omega
  have BL := fun W => bitlen_any M W (by omega)
  obtain ⟨L, hL⟩ : ∃ L, Lib.bitLen M = L := ⟨_, rfl⟩
  rw [hL] at BL c3
  have BL := Lib.hid BL
  have k7 : decide (53 < L) = false := decide_eq_false (by omega)
  have k8 : decide ((53 : Int) < (L : Int)) = false := decide_eq_false (by omega)
  have k9 : decide (e < -1074) = true := decide_eq_true c4
  clear ha ha2 hm hb hbl he c0 c1 c2 c3 c4 c9 hL
  clear hA hAB hPN hABl hBBl hsz
  go_enter Tryz.func33, Tryz.ntmps33
  go_upto_if 20 with fail
  rw [HW2.out, HX.out]
  go_cut [5] (fun t wx => t = .string XB ∧ wx = w2)
  case first =>
    cases b45 with
    | true =>
      have E := HP.out.cut rfl
      have hss : decide (1 ≤ s.size) = true := decide_eq_true (by omega)
      have hss2 : (1 : Int) ≤ s.size := by omega
      go_wp2_with fail
      go_meet
      exact ⟨rfl, rfl⟩
    | false =>
      have E := Lib.hid (HP.out.whole rfl)
      go_wp2_with fail
      go_meet
      exact ⟨by rw [E.out], rfl⟩
  case rest =>
    obtain ⟨rfl, hww⟩ := hcut
    subst hww
    go_wp2_with fail
    go_loopg [6] PN (fun g t wx => ∃ k : Nat, t = .int .i64 (k : Int) ∧ wx = wc ∧ k ≤ PN ∧ PN ≤ k + g)
    case atStart => exact ⟨0, rfl, rfl, by omega, by omega⟩
    case round =>
      obtain ⟨k, rfl, hww, hkp, hg⟩ := hrel
      subst hww
      by_cases hkl : k < PN
      · obtain ⟨g, rfl⟩ : ∃ g, gk = g + 1 := ⟨gk - 1, by omega⟩
        have hks : k < XB.size := by omega
        have hk0 : (0 : Int) ≤ (k : Int) := by omega
        have hki : (k : Int) < XB.size := by omega
        have n1 : decide (k < XB.size) = true := decide_eq_true hks
        obtain ⟨e0, he⟩ : ∃ e : UInt8, XB[k]'hks = e := ⟨_, rfl⟩
        have hne := HNO.out k e0 hkl (byte_at hks he)
        have n2 : ((e0.toNat : Int) == 112) = false := byte_eq (c := 112) hne
        have n3 : ((e0.toNat : Int) != 112) = true := by rw [bne, n2]; rfl
        go_wp2_with fail
        go_roundg g
        case measure => omega
        case rel => exact ⟨k + 1, by go_num, rfl, hkl, Nat.le_trans hg (Nat.le_of_eq (by rw [Nat.add_assoc, Nat.add_comm 1 g]))⟩
      · obtain rfl : k = PN := by omega
        have hk0 : (0 : Int) ≤ (k : Int) := by omega
        have hki : (k : Int) < XB.size := by omega
        have hkn : (k : Int) ≤ XB.size := by omega
        have hkn2 : k ≤ XB.size := by omega
        have hkn3 : k + 1 ≤ XB.size := by omega
        have n4 : decide (k < XB.size) = true := decide_eq_true hpl
        have n5 : (((112 : UInt8).toNat : Int) == 112) = true := rfl
        have n6 : (((112 : UInt8).toNat : Int) != 112) = false := rfl
        have n7 : ((k : Int) == (XB.size : Int)) = false := by rw [beq_eq_false_iff_ne]; omega
        have n8 : IntKind.i64.wrap ((k : Int) + 1) = ((k + 1 : Nat) : Int) := by rw [show (k : Int) + 1 = ((k + 1 : Nat) : Int) by omega]; exact IntWalk.i64_in _ (by omega)
        have n9 : ((k + 1 : Nat) : Int) ≤ XB.size := by omega
        clear hkl
        go_wp2_with fail
        refine (NA.out _).mono ?_
        rintro x w5 ⟨rfl, rfl⟩
        go_wp2_with fail
        refine (NB.out _).mono ?_
        rintro x w6 ⟨rfl, rfl⟩
        go_wp2_with fail
        refine (BL.out _).mono ?_
        rintro x w7 ⟨rfl, rfl⟩
        go_wp2_with fail
        refine bodyPost_ret (v := .tuple #[.agg #[.int .i64 0, .bool false, .int .u64 0, .int .i64 0], .bool false]) (by simp [results, Tryz.results33, go_sem, z0, z1, z2, z3]) rfl ?_
        refine ⟨rfl, ?_⟩
        rw [HX.out]
        exact (((hb2.setCell (p := ⟨X, 0, none⟩) (Nat.le_refl _) _).setCell (p := ⟨X, 1, none⟩) (Nat.le_refl _) _).setCell (p := ⟨X, 2, none⟩) (Nat.le_refl _) _).setCell (p := ⟨X, 3, none⟩) (Nat.le_refl _) _
set_option maxHeartbeats 4000000 in
set_option maxRecDepth 100000 in
theorem refof_high (s XB : ByteArray) (b45 : Bool) (hp : OfPre s XB b45) (hi : XB.data.toList ≠ [105, 110, 102]) (hn : s.data.toList ≠ [110, 97, 110]) (A B : List UInt8) (hAB : XB.data.toList = A ++ 112 :: B) (hA : ∀ b ∈ A, b ≠ 112) (m e : Int) (ha : Fl.vB A = true) (ha2 : A.length ≤ 18) (hm : Fl.numI A = m) (hb : Fl.vB B = true) (hbl : B.length ≤ 18) (he : Fl.numI B = e) (M : Nat) (c0 : m = (M : Int)) (c1 : 0 < M) (c9 : M < 1000000000000000000) (c2 : M % 2 = 1) (c3 : Lib.bitLen M ≤ 53) (c4 : -1074 ≤ e) (c5 : 1023 < e) (w : World) : Calls Tryz.prog 33 #[.string s] w fun x w' => x = .returned (.tuple #[.agg #[.int .i64 0, .bool false, .int .u64 0, .int .i64 0], .bool false]) ∧ Below w.heap.size w w' := by
  have HP := Lib.hid hp
  obtain ⟨w2, hw2⟩ : ∃ w2 : World, w.alloc (.cells #[.int .i64 0, .bool false, .int .u64 0, .int .i64 0] 24) = w2 := ⟨_, rfl⟩
  obtain ⟨X, hX⟩ : ∃ X, w.heap.size = X := ⟨_, rfl⟩
  have hXc := heap_alloc_new w (.cells #[.int .i64 0, .bool false, .int .u64 0, .int .i64 0] 24)
  have hb2 : Below X w w2 := by rw [← hw2, ← hX]; exact (Below.refl _ _).alloc (Nat.le_refl _) _
  rw [hw2, hX] at hXc
  have HW2 := Lib.hid hw2
  have HX := Lib.hid hX
  have z0 := at_block hXc 0 _ rfl
  have z1 := at_block hXc 1 _ rfl
  have z2 := at_block hXc 2 _ rfl
  have z3 := at_block hXc 3 _ rfl
  have f0 := free_block hXc 0
  have f1 := free_block hXc 1
  have f2 := free_block hXc 2
  have f3 := free_block hXc 3
  have hlt0 := hp.pos
  have hin : decide (0 < s.size) = true := decide_eq_true hp.pos
  have hi00 : (0 : Int) < s.size := by have := hp.pos; omega
  have hsle := hp.le
  have hxle := hp.len
  obtain ⟨d0, hd0⟩ : ∃ d : UInt8, s[0]'hlt0 = d := ⟨_, rfl⟩
  have hb45 : ((d0.toNat : Int) == 45) = b45 := by rw [← hd0]; exact hp.head hlt0
  clear hp hw2 hX hXc
  have n1 : (XB.toList == [105, 110, 102]) = false := ba_list' hi
  have n2 : (s.toList == [110, 97, 110]) = false := ba_list' hn
  clear hi hn
  obtain ⟨PN, hPN⟩ : ∃ PN, A.length = PN := ⟨_, rfl⟩
  have hsz : XB.size = PN + 1 + B.length := by rw [ba_size, hAB, List.length_append, List.length_cons, hPN]; omega
  have HNO := Lib.hid (show ∀ j b, j < PN → XB.data.toList[j]? = some b → b ≠ 112 from fun j b hj hb => by
    rw [hAB, List.getElem?_append_left (by omega)] at hb
    exact hA b (List.mem_of_getElem? hb))
  obtain ⟨AB, hABe⟩ : ∃ AB, XB.extract 0 PN = AB := ⟨_, rfl⟩
  obtain ⟨BB, hBBe⟩ : ∃ BB, XB.extract (PN + 1) XB.size = BB := ⟨_, rfl⟩
  have hABl : AB.data.toList = A := by
    rw [← hABe]
    simp [hAB, ← hPN]
  have hBBl : BB.data.toList = B := by
    rw [← hBBe]
    simp [hAB, ← hPN, hsz]
  have hpl : PN < XB.size := by omega
  have hp112 : XB[PN]'hpl = 112 := by
    have h1 := byte_at hpl rfl
    rw [hAB, List.getElem?_append_right (by omega), hPN, Nat.sub_self] at h1
    exact (Option.some.inj h1).symm
  have hABs : AB.size ≤ 300 := by rw [ba_size, hABl]; omega
  have hBBs : BB.size ≤ 300 := by rw [ba_size, hBBl]; omega
  have NA := fun W => refnumber_good AB (by rw [ba_size, hABl]; exact ha2) (by rw [hABl]; exact ha) W
  rw [hABl, hm] at NA
  have NA := Lib.hid NA
  have NB := fun W => refnumber_good BB (by rw [ba_size, hBBl]; exact hbl) (by rw [hBBl]; exact hb) W
  rw [hBBl, he] at NB
  have NB := Lib.hid NB
  have k1 : decide (m < 0) = false := decide_eq_false (by omega)
  have k2 : (m == 0) = false := by rw [beq_eq_false_iff_ne]; omega
  have k3 : (m != 0) = true := by rw [bne_iff_ne]; omega
  have k4 : m % 2 = 1 := by omega
  have k5 : Int.tmod m 2 = 1 := by rw [Int.tmod_eq_emod_of_nonneg (by omega)]; exact k4
  have k6 : IntKind.u64.wrap m = (M : Int) := by rw [c0, IntKind.wrap_u64]; omega
  have BL := fun W => bitlen_any M W (by omega)
  obtain ⟨L, hL⟩ : ∃ L, Lib.bitLen M = L := ⟨_, rfl⟩
  rw [hL] at BL c3
  have BL := Lib.hid BL
  have k7 : decide (53 < L) = false := decide_eq_false (by omega)
  have k8 : decide ((53 : Int) < (L : Int)) = false := decide_eq_false (by omega)
  have k9 : decide (e < -1074) = false := decide_eq_false (Int.not_lt.mpr c4)
  have k10 : decide (1023 < e) = true := decide_eq_true c5
  clear ha ha2 hm hb hbl he c0 c1 c2 c3 c4 c5 c9 hL
  clear hA hAB hPN hABl hBBl hsz
  go_enter Tryz.func33, Tryz.ntmps33
  go_upto_if 20 with fail
  rw [HW2.out, HX.out]
  go_cut [5] (fun t wx => t = .string XB ∧ wx = w2)
  case first =>
    cases b45 with
    | true =>
      have E := HP.out.cut rfl
      have hss : decide (1 ≤ s.size) = true := decide_eq_true (by omega)
      have hss2 : (1 : Int) ≤ s.size := by omega
      go_wp2_with fail
      go_meet
      exact ⟨rfl, rfl⟩
    | false =>
      have E := Lib.hid (HP.out.whole rfl)
      go_wp2_with fail
      go_meet
      exact ⟨by rw [E.out], rfl⟩
  case rest =>
    obtain ⟨rfl, hww⟩ := hcut
    subst hww
    go_wp2_with fail
    go_loopg [6] PN (fun g t wx => ∃ k : Nat, t = .int .i64 (k : Int) ∧ wx = wc ∧ k ≤ PN ∧ PN ≤ k + g)
    case atStart => exact ⟨0, rfl, rfl, by omega, by omega⟩
    case round =>
      obtain ⟨k, rfl, hww, hkp, hg⟩ := hrel
      subst hww
      by_cases hkl : k < PN
      · obtain ⟨g, rfl⟩ : ∃ g, gk = g + 1 := ⟨gk - 1, by omega⟩
        have hks : k < XB.size := by omega
        have hk0 : (0 : Int) ≤ (k : Int) := by omega
        have hki : (k : Int) < XB.size := by omega
        have n1 : decide (k < XB.size) = true := decide_eq_true hks
        obtain ⟨e0, he⟩ : ∃ e : UInt8, XB[k]'hks = e := ⟨_, rfl⟩
        have hne := HNO.out k e0 hkl (byte_at hks he)
        have n2 : ((e0.toNat : Int) == 112) = false := byte_eq (c := 112) hne
        have n3 : ((e0.toNat : Int) != 112) = true := by rw [bne, n2]; rfl
        go_wp2_with fail
        go_roundg g
        case measure => omega
        case rel => exact ⟨k + 1, by go_num, rfl, hkl, Nat.le_trans hg (Nat.le_of_eq (by rw [Nat.add_assoc, Nat.add_comm 1 g]))⟩
      · obtain rfl : k = PN := by omega
        have hk0 : (0 : Int) ≤ (k : Int) := by omega
        have hki : (k : Int) < XB.size := by omega
        have hkn : (k : Int) ≤ XB.size := by omega
        have hkn2 : k ≤ XB.size := by omega
        have hkn3 : k + 1 ≤ XB.size := by omega
        have n4 : decide (k < XB.size) = true := decide_eq_true hpl
        have n5 : (((112 : UInt8).toNat : Int) == 112) = true := rfl
        have n6 : (((112 : UInt8).toNat : Int) != 112) = false := rfl
        have n7 : ((k : Int) == (XB.size : Int)) = false := by rw [beq_eq_false_iff_ne]; omega
        have n8 : IntKind.i64.wrap ((k : Int) + 1) = ((k + 1 : Nat) : Int) := by rw [show (k : Int) + 1 = ((k + 1 : Nat) : Int) by omega]; exact IntWalk.i64_in _ (by omega)
        have n9 : ((k + 1 : Nat) : Int) ≤ XB.size := by omega
        clear hkl
        go_wp2_with fail
        refine (NA.out _).mono ?_
        rintro x w5 ⟨rfl, rfl⟩
        go_wp2_with fail
        refine (NB.out _).mono ?_
        rintro x w6 ⟨rfl, rfl⟩
        go_wp2_with fail
        refine (BL.out _).mono ?_
        rintro x w7 ⟨rfl, rfl⟩
        go_wp2_with fail
        refine bodyPost_ret (v := .tuple #[.agg #[.int .i64 0, .bool false, .int .u64 0, .int .i64 0], .bool false]) (by simp [results, Tryz.results33, go_sem, z0, z1, z2, z3]) rfl ?_
        refine ⟨rfl, ?_⟩
        rw [HX.out]
        exact (((hb2.setCell (p := ⟨X, 0, none⟩) (Nat.le_refl _) _).setCell (p := ⟨X, 1, none⟩) (Nat.le_refl _) _).setCell (p := ⟨X, 2, none⟩) (Nat.le_refl _) _).setCell (p := ⟨X, 3, none⟩) (Nat.le_refl _) _
set_option maxHeartbeats 4000000 in
set_option maxRecDepth 100000 in
theorem refof_sum (s XB : ByteArray) (b45 : Bool) (hp : OfPre s XB b45) (hi : XB.data.toList ≠ [105, 110, 102]) (hn : s.data.toList ≠ [110, 97, 110]) (A B : List UInt8) (hAB : XB.data.toList = A ++ 112 :: B) (hA : ∀ b ∈ A, b ≠ 112) (m e : Int) (ha : Fl.vB A = true) (ha2 : A.length ≤ 18) (hm : Fl.numI A = m) (hb : Fl.vB B = true) (hbl : B.length ≤ 18) (he : Fl.numI B = e) (M : Nat) (c0 : m = (M : Int)) (c1 : 0 < M) (c9 : M < 1000000000000000000) (c2 : M % 2 = 1) (c3 : Lib.bitLen M ≤ 53) (c4 : -1074 ≤ e) (c5 : e ≤ 1023) (c6 : 1024 < e + (Lib.bitLen M : Int)) (w : World) : Calls Tryz.prog 33 #[.string s] w fun x w' => x = .returned (.tuple #[.agg #[.int .i64 0, .bool false, .int .u64 0, .int .i64 0], .bool false]) ∧ Below w.heap.size w w' := by
  have HP := Lib.hid hp
  obtain ⟨w2, hw2⟩ : ∃ w2 : World, w.alloc (.cells #[.int .i64 0, .bool false, .int .u64 0, .int .i64 0] 24) = w2 := ⟨_, rfl⟩
  obtain ⟨X, hX⟩ : ∃ X, w.heap.size = X := ⟨_, rfl⟩
  have hXc := heap_alloc_new w (.cells #[.int .i64 0, .bool false, .int .u64 0, .int .i64 0] 24)
  have hb2 : Below X w w2 := by rw [← hw2, ← hX]; exact (Below.refl _ _).alloc (Nat.le_refl _) _
  rw [hw2, hX] at hXc
  have HW2 := Lib.hid hw2
  have HX := Lib.hid hX
  have z0 := at_block hXc 0 _ rfl
  have z1 := at_block hXc 1 _ rfl
  have z2 := at_block hXc 2 _ rfl
  have z3 := at_block hXc 3 _ rfl
  have f0 := free_block hXc 0
  have f1 := free_block hXc 1
  have f2 := free_block hXc 2
  have f3 := free_block hXc 3
  have hlt0 := hp.pos
  have hin : decide (0 < s.size) = true := decide_eq_true hp.pos
  have hi00 : (0 : Int) < s.size := by have := hp.pos; omega
  have hsle := hp.le
  have hxle := hp.len
  obtain ⟨d0, hd0⟩ : ∃ d : UInt8, s[0]'hlt0 = d := ⟨_, rfl⟩
  have hb45 : ((d0.toNat : Int) == 45) = b45 := by rw [← hd0]; exact hp.head hlt0
  clear hp hw2 hX hXc
  have n1 : (XB.toList == [105, 110, 102]) = false := ba_list' hi
  have n2 : (s.toList == [110, 97, 110]) = false := ba_list' hn
  clear hi hn
  obtain ⟨PN, hPN⟩ : ∃ PN, A.length = PN := ⟨_, rfl⟩
  have hsz : XB.size = PN + 1 + B.length := by rw [ba_size, hAB, List.length_append, List.length_cons, hPN]; omega
  have HNO := Lib.hid (show ∀ j b, j < PN → XB.data.toList[j]? = some b → b ≠ 112 from fun j b hj hb => by
    rw [hAB, List.getElem?_append_left (by omega)] at hb
    exact hA b (List.mem_of_getElem? hb))
  obtain ⟨AB, hABe⟩ : ∃ AB, XB.extract 0 PN = AB := ⟨_, rfl⟩
  obtain ⟨BB, hBBe⟩ : ∃ BB, XB.extract (PN + 1) XB.size = BB := ⟨_, rfl⟩
  have hABl : AB.data.toList = A := by
    rw [← hABe]
    simp [hAB, ← hPN]
  have hBBl : BB.data.toList = B := by
    rw [← hBBe]
    simp [hAB, ← hPN, hsz]
  have hpl : PN < XB.size := by omega
  have hp112 : XB[PN]'hpl = 112 := by
    have h1 := byte_at hpl rfl
    rw [hAB, List.getElem?_append_right (by omega), hPN, Nat.sub_self] at h1
    exact (Option.some.inj h1).symm
  have hABs : AB.size ≤ 300 := by rw [ba_size, hABl]; omega
  have hBBs : BB.size ≤ 300 := by rw [ba_size, hBBl]; omega
  have NA := fun W => refnumber_good AB (by rw [ba_size, hABl]; exact ha2) (by rw [hABl]; exact ha) W
  rw [hABl, hm] at NA
  have NA := Lib.hid NA
  have NB := fun W => refnumber_good BB (by rw [ba_size, hBBl]; exact hbl) (by rw [hBBl]; exact hb) W
  rw [hBBl, he] at NB
  have NB := Lib.hid NB
  have k1 : decide (m < 0) = false := decide_eq_false (by omega)
  have k2 : (m == 0) = false := by rw [beq_eq_false_iff_ne]; omega
  have k3 : (m != 0) = true := by rw [bne_iff_ne]; omega
  have k4 : m % 2 = 1 := by omega
  have k5 : Int.tmod m 2 = 1 := by rw [Int.tmod_eq_emod_of_nonneg (by omega)]; exact k4
  have k6 : IntKind.u64.wrap m = (M : Int) := by rw [c0, IntKind.wrap_u64]; omega
  have BL := fun W => bitlen_any M W (by omega)
  obtain ⟨L, hL⟩ : ∃ L, Lib.bitLen M = L := ⟨_, rfl⟩
  rw [hL] at BL c3 c6
  have BL := Lib.hid BL
  have k7 : decide (53 < L) = false := decide_eq_false (by omega)
  have k8 : decide ((53 : Int) < (L : Int)) = false := decide_eq_false (by omega)
  have k9 : decide (e < -1074) = false := decide_eq_false (Int.not_lt.mpr c4)
  have k10 : decide (1023 < e) = false := decide_eq_false (by omega)
  have k11 : IntKind.i64.wrap (e + (L : Int)) = e + (L : Int) := IntWalk.i64_in _ (by omega)
  have k12 : decide (1024 < e + (L : Int)) = true := decide_eq_true c6
  clear ha ha2 hm hb hbl he c0 c1 c2 c3 c4 c5 c6 c9 hL
  clear hA hAB hPN hABl hBBl hsz
  go_enter Tryz.func33, Tryz.ntmps33
  go_upto_if 20 with fail
  rw [HW2.out, HX.out]
  go_cut [5] (fun t wx => t = .string XB ∧ wx = w2)
  case first =>
    cases b45 with
    | true =>
      have E := HP.out.cut rfl
      have hss : decide (1 ≤ s.size) = true := decide_eq_true (by omega)
      have hss2 : (1 : Int) ≤ s.size := by omega
      go_wp2_with fail
      go_meet
      exact ⟨rfl, rfl⟩
    | false =>
      have E := Lib.hid (HP.out.whole rfl)
      go_wp2_with fail
      go_meet
      exact ⟨by rw [E.out], rfl⟩
  case rest =>
    obtain ⟨rfl, hww⟩ := hcut
    subst hww
    go_wp2_with fail
    go_loopg [6] PN (fun g t wx => ∃ k : Nat, t = .int .i64 (k : Int) ∧ wx = wc ∧ k ≤ PN ∧ PN ≤ k + g)
    case atStart => exact ⟨0, rfl, rfl, by omega, by omega⟩
    case round =>
      obtain ⟨k, rfl, hww, hkp, hg⟩ := hrel
      subst hww
      by_cases hkl : k < PN
      · obtain ⟨g, rfl⟩ : ∃ g, gk = g + 1 := ⟨gk - 1, by omega⟩
        have hks : k < XB.size := by omega
        have hk0 : (0 : Int) ≤ (k : Int) := by omega
        have hki : (k : Int) < XB.size := by omega
        have n1 : decide (k < XB.size) = true := decide_eq_true hks
        obtain ⟨e0, he⟩ : ∃ e : UInt8, XB[k]'hks = e := ⟨_, rfl⟩
        have hne := HNO.out k e0 hkl (byte_at hks he)
        have n2 : ((e0.toNat : Int) == 112) = false := byte_eq (c := 112) hne
        have n3 : ((e0.toNat : Int) != 112) = true := by rw [bne, n2]; rfl
        go_wp2_with fail
        go_roundg g
        case measure => omega
        case rel => exact ⟨k + 1, by go_num, rfl, hkl, Nat.le_trans hg (Nat.le_of_eq (by rw [Nat.add_assoc, Nat.add_comm 1 g]))⟩
      · obtain rfl : k = PN := by omega
        have hk0 : (0 : Int) ≤ (k : Int) := by omega
        have hki : (k : Int) < XB.size := by omega
        have hkn : (k : Int) ≤ XB.size := by omega
        have hkn2 : k ≤ XB.size := by omega
        have hkn3 : k + 1 ≤ XB.size := by omega
        have n4 : decide (k < XB.size) = true := decide_eq_true hpl
        have n5 : (((112 : UInt8).toNat : Int) == 112) = true := rfl
        have n6 : (((112 : UInt8).toNat : Int) != 112) = false := rfl
        have n7 : ((k : Int) == (XB.size : Int)) = false := by rw [beq_eq_false_iff_ne]; omega
        have n8 : IntKind.i64.wrap ((k : Int) + 1) = ((k + 1 : Nat) : Int) := by rw [show (k : Int) + 1 = ((k + 1 : Nat) : Int) by omega]; exact IntWalk.i64_in _ (by omega)
        have n9 : ((k + 1 : Nat) : Int) ≤ XB.size := by omega
        clear hkl
        go_wp2_with fail
        refine (NA.out _).mono ?_
        rintro x w5 ⟨rfl, rfl⟩
        go_wp2_with fail
        refine (NB.out _).mono ?_
        rintro x w6 ⟨rfl, rfl⟩
        go_wp2_with fail
        refine (BL.out _).mono ?_
        rintro x w7 ⟨rfl, rfl⟩
        go_wp2_with fail
        refine (BL.out _).mono ?_
        rintro x w8 ⟨rfl, rfl⟩
        go_wp2_with fail
        refine bodyPost_ret (v := .tuple #[.agg #[.int .i64 0, .bool false, .int .u64 0, .int .i64 0], .bool false]) (by simp [results, Tryz.results33, go_sem, z0, z1, z2, z3]) rfl ?_
        refine ⟨rfl, ?_⟩
        rw [HX.out]
        exact (((hb2.setCell (p := ⟨X, 0, none⟩) (Nat.le_refl _) _).setCell (p := ⟨X, 1, none⟩) (Nat.le_refl _) _).setCell (p := ⟨X, 2, none⟩) (Nat.le_refl _) _).setCell (p := ⟨X, 3, none⟩) (Nat.le_refl _) _
set_option maxHeartbeats 4000000 in
set_option maxRecDepth 100000 in
theorem refof_num (s XB : ByteArray) (b45 : Bool) (hp : OfPre s XB b45) (hi : XB.data.toList ≠ [105, 110, 102]) (hn : s.data.toList ≠ [110, 97, 110]) (A B : List UInt8) (hAB : XB.data.toList = A ++ 112 :: B) (hA : ∀ b ∈ A, b ≠ 112) (m e : Int) (ha : Fl.vB A = true) (ha2 : A.length ≤ 18) (hm : Fl.numI A = m) (hb : Fl.vB B = true) (hbl : B.length ≤ 18) (he : Fl.numI B = e) (M : Nat) (c0 : m = (M : Int)) (c1 : 0 < M) (c9 : M < 1000000000000000000) (c2 : M % 2 = 1) (c3 : Lib.bitLen M ≤ 53) (c4 : -1074 ≤ e) (c5 : e ≤ 1023) (c6 : e + (Lib.bitLen M : Int) ≤ 1024) (w : World) : Calls Tryz.prog 33 #[.string s] w fun x w' => x = .returned (.tuple #[.agg #[.int .i64 0, .bool b45, .int .u64 (M : Int), .int .i64 e], .bool true]) ∧ Below w.heap.size w w' := by
  have HP := Lib.hid hp
  obtain ⟨w2, hw2⟩ : ∃ w2 : World, w.alloc (.cells #[.int .i64 0, .bool false, .int .u64 0, .int .i64 0] 24) = w2 := ⟨_, rfl⟩
  obtain ⟨X, hX⟩ : ∃ X, w.heap.size = X := ⟨_, rfl⟩
  have hXc := heap_alloc_new w (.cells #[.int .i64 0, .bool false, .int .u64 0, .int .i64 0] 24)
  have hb2 : Below X w w2 := by rw [← hw2, ← hX]; exact (Below.refl _ _).alloc (Nat.le_refl _) _
  rw [hw2, hX] at hXc
  have HW2 := Lib.hid hw2
  have HX := Lib.hid hX
  have z0 := at_block hXc 0 _ rfl
  have z1 := at_block hXc 1 _ rfl
  have z2 := at_block hXc 2 _ rfl
  have z3 := at_block hXc 3 _ rfl
  have f0 := free_block hXc 0
  have f1 := free_block hXc 1
  have f2 := free_block hXc 2
  have f3 := free_block hXc 3
  have hlt0 := hp.pos
  have hin : decide (0 < s.size) = true := decide_eq_true hp.pos
  have hi00 : (0 : Int) < s.size := by have := hp.pos; omega
  have hsle := hp.le
  have hxle := hp.len
  obtain ⟨d0, hd0⟩ : ∃ d : UInt8, s[0]'hlt0 = d := ⟨_, rfl⟩
  have hb45 : ((d0.toNat : Int) == 45) = b45 := by rw [← hd0]; exact hp.head hlt0
  clear hp hw2 hX hXc
  have n1 : (XB.toList == [105, 110, 102]) = false := ba_list' hi
  have n2 : (s.toList == [110, 97, 110]) = false := ba_list' hn
  clear hi hn
  obtain ⟨PN, hPN⟩ : ∃ PN, A.length = PN := ⟨_, rfl⟩
  have hsz : XB.size = PN + 1 + B.length := by rw [ba_size, hAB, List.length_append, List.length_cons, hPN]; omega
  have HNO := Lib.hid (show ∀ j b, j < PN → XB.data.toList[j]? = some b → b ≠ 112 from fun j b hj hb => by
    rw [hAB, List.getElem?_append_left (by omega)] at hb
    exact hA b (List.mem_of_getElem? hb))
  obtain ⟨AB, hABe⟩ : ∃ AB, XB.extract 0 PN = AB := ⟨_, rfl⟩
  obtain ⟨BB, hBBe⟩ : ∃ BB, XB.extract (PN + 1) XB.size = BB := ⟨_, rfl⟩
  have hABl : AB.data.toList = A := by
    rw [← hABe]
    simp [hAB, ← hPN]
  have hBBl : BB.data.toList = B := by
    rw [← hBBe]
    simp [hAB, ← hPN, hsz]
  have hpl : PN < XB.size := by omega
  have hp112 : XB[PN]'hpl = 112 := by
    have h1 := byte_at hpl rfl
    rw [hAB, List.getElem?_append_right (by omega), hPN, Nat.sub_self] at h1
    exact (Option.some.inj h1).symm
  have hABs : AB.size ≤ 300 := by rw [ba_size, hABl]; omega
  have hBBs : BB.size ≤ 300 := by rw [ba_size, hBBl]; omega
  have NA := fun W => refnumber_good AB (by rw [ba_size, hABl]; exact ha2) (by rw [hABl]; exact ha) W
  rw [hABl, hm] at NA
  have NA := Lib.hid NA
  have NB := fun W => refnumber_good BB (by rw [ba_size, hBBl]; exact hbl) (by rw [hBBl]; exact hb) W
  rw [hBBl, he] at NB
  have NB := Lib.hid NB
  have k1 : decide (m < 0) = false := decide_eq_false (by omega)
  have k2 : (m == 0) = false := by rw [beq_eq_false_iff_ne]; omega
  have k3 : (m != 0) = true := by rw [bne_iff_ne]; omega
  have k4 : m % 2 = 1 := by omega
  have k5 : Int.tmod m 2 = 1 := by rw [Int.tmod_eq_emod_of_nonneg (by omega)]; exact k4
  have k6 : IntKind.u64.wrap m = (M : Int) := by rw [c0, IntKind.wrap_u64]; omega
  have BL := fun W => bitlen_any M W (by omega)
  obtain ⟨L, hL⟩ : ∃ L, Lib.bitLen M = L := ⟨_, rfl⟩
  rw [hL] at BL c3 c6
  have BL := Lib.hid BL
  have k7 : decide (53 < L) = false := decide_eq_false (by omega)
  have k8 : decide ((53 : Int) < (L : Int)) = false := decide_eq_false (by omega)
  have k9 : decide (e < -1074) = false := decide_eq_false (Int.not_lt.mpr c4)
  have k10 : decide (1023 < e) = false := decide_eq_false (by omega)
  have k11 : IntKind.i64.wrap (e + (L : Int)) = e + (L : Int) := IntWalk.i64_in _ (by omega)
  have k12 : decide (1024 < e + (L : Int)) = false := decide_eq_false (by omega)
  clear ha ha2 hm hb hbl he c0 c1 c2 c3 c4 c5 c6 c9 hL
  clear hA hAB hPN hABl hBBl hsz
  go_enter Tryz.func33, Tryz.ntmps33
  go_upto_if 20 with fail
  rw [HW2.out, HX.out]
  go_cut [5] (fun t wx => t = .string XB ∧ wx = w2)
  case first =>
    cases b45 with
    | true =>
      have E := HP.out.cut rfl
      have hss : decide (1 ≤ s.size) = true := decide_eq_true (by omega)
      have hss2 : (1 : Int) ≤ s.size := by omega
      go_wp2_with fail
      go_meet
      exact ⟨rfl, rfl⟩
    | false =>
      have E := Lib.hid (HP.out.whole rfl)
      go_wp2_with fail
      go_meet
      exact ⟨by rw [E.out], rfl⟩
  case rest =>
    obtain ⟨rfl, hww⟩ := hcut
    subst hww
    go_wp2_with fail
    go_loopg [6] PN (fun g t wx => ∃ k : Nat, t = .int .i64 (k : Int) ∧ wx = wc ∧ k ≤ PN ∧ PN ≤ k + g)
    case atStart => exact ⟨0, rfl, rfl, by omega, by omega⟩
    case round =>
      obtain ⟨k, rfl, hww, hkp, hg⟩ := hrel
      subst hww
      by_cases hkl : k < PN
      · obtain ⟨g, rfl⟩ : ∃ g, gk = g + 1 := ⟨gk - 1, by omega⟩
        have hks : k < XB.size := by omega
        have hk0 : (0 : Int) ≤ (k : Int) := by omega
        have hki : (k : Int) < XB.size := by omega
        have n1 : decide (k < XB.size) = true := decide_eq_true hks
        obtain ⟨e0, he⟩ : ∃ e : UInt8, XB[k]'hks = e := ⟨_, rfl⟩
        have hne := HNO.out k e0 hkl (byte_at hks he)
        have n2 : ((e0.toNat : Int) == 112) = false := byte_eq (c := 112) hne
        have n3 : ((e0.toNat : Int) != 112) = true := by rw [bne, n2]; rfl
        go_wp2_with fail
        go_roundg g
        case measure => omega
        case rel => exact ⟨k + 1, by go_num, rfl, hkl, Nat.le_trans hg (Nat.le_of_eq (by rw [Nat.add_assoc, Nat.add_comm 1 g]))⟩
      · obtain rfl : k = PN := by omega
        have hk0 : (0 : Int) ≤ (k : Int) := by omega
        have hki : (k : Int) < XB.size := by omega
        have hkn : (k : Int) ≤ XB.size := by omega
        have hkn2 : k ≤ XB.size := by omega
        have hkn3 : k + 1 ≤ XB.size := by omega
        have n4 : decide (k < XB.size) = true := decide_eq_true hpl
        have n5 : (((112 : UInt8).toNat : Int) == 112) = true := rfl
        have n6 : (((112 : UInt8).toNat : Int) != 112) = false := rfl
        have n7 : ((k : Int) == (XB.size : Int)) = false := by rw [beq_eq_false_iff_ne]; omega
        have n8 : IntKind.i64.wrap ((k : Int) + 1) = ((k + 1 : Nat) : Int) := by rw [show (k : Int) + 1 = ((k + 1 : Nat) : Int) by omega]; exact IntWalk.i64_in _ (by omega)
        have n9 : ((k + 1 : Nat) : Int) ≤ XB.size := by omega
        clear hkl
        go_wp2_with fail
        refine (NA.out _).mono ?_
        rintro x w5 ⟨rfl, rfl⟩
        go_wp2_with fail
        refine (NB.out _).mono ?_
        rintro x w6 ⟨rfl, rfl⟩
        go_wp2_with fail
        refine (BL.out _).mono ?_
        rintro x w7 ⟨rfl, rfl⟩
        go_wp2_with fail
        refine (BL.out _).mono ?_
        rintro x w8 ⟨rfl, rfl⟩
        go_wp2_with fail
        refine bodyPost_ret (v := .tuple #[.agg #[.int .i64 0, .bool b45, .int .u64 (M : Int), .int .i64 e], .bool true]) (by simp [results, Tryz.results33, go_sem, z0, z1, z2, z3]) rfl ?_
        refine ⟨rfl, ?_⟩
        rw [HX.out]
        exact (((hb2.setCell (p := ⟨X, 0, none⟩) (Nat.le_refl _) _).setCell (p := ⟨X, 1, none⟩) (Nat.le_refl _) _).setCell (p := ⟨X, 2, none⟩) (Nat.le_refl _) _).setCell (p := ⟨X, 3, none⟩) (Nat.le_refl _) _
end Go.Proofs.YtjapgpmoojfhnaaGreatDoor
