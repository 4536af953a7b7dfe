/- The contracts of integer.trim, integer.read, integer.Valid. -/
import Derived.Test.YtmgafnflkfbckaaGreatDoorWalkE
import Derived.RegionTactic
import Derived.BigRegion
import Derived.ChangeAlike
namespace Go.Proofs.YtmgafnflkfbckaaGreatDoor
open Go.RowKit Go.Lib

set_option maxHeartbeats 1000000 in
set_option maxRecDepth 100000 in
theorem trim_any (A : Option Addr) (n c : Nat) (l : List Nat) (w : World) (hr : Reads w w.heap.size A n (u8s l)) (hc : n ≤ c) (hn : n ≤ 1073741824) : Calls Tryz.prog 75 #[.slice A n c] w fun x w' => (∃ m, x = .returned (.slice A m c)) ∧ w' = w := by
  go_enter Tryz.func75, Tryz.ntmps75
  go_wp2
  go_loopg [0] n (fun f i wx => ∃ m : Nat, i = .slice A m c ∧ m ≤ n ∧ m ≤ f ∧ wx = w)
  case atStart => exact ⟨n, rfl, by omega, by omega, rfl⟩
  case round =>
    obtain ⟨m, rfl, hm, hf, rfl⟩ := hrel
    by_cases h0 : m = 0
    · subst h0
      go_wp2
      go_ret
      exact ⟨⟨0, rfl⟩, rfl⟩
    · obtain ⟨q, rfl⟩ : ∃ q, m = q + 1 := ⟨m - 1, by omega⟩
      obtain ⟨b, off, u, rfl, hbB, hu, hcell⟩ := hr.at_ (k := q) (by omega)
      obtain ⟨x, hx, rfl⟩ := u8_at hu
      have hin : (0 : Int) < ((q + 1 : Nat) : Int) := by omega
      by_cases hx0 : x = 0
      · have hx0f : ((x : Int) == 0) = true := by subst hx0; rfl
        obtain ⟨f, rfl⟩ : ∃ f, gk = f + 1 := ⟨gk - 1, by omega⟩
        have HX := Lib.hid hx
        clear hx0 hx hu
        go_wp2
        go_roundg f
        case measure => omega
        case rel => exact ⟨q, by go_num, by omega, by omega, rfl⟩
      · have hx0f : ((x : Int) == 0) = false := by simp; omega
        have HX := Lib.hid hx
        clear hx0 hx hu
        go_wp2
        go_ret
        exact ⟨⟨q + 1, rfl⟩, rfl⟩

theorem data_extract (s : ByteArray) (i j : Nat) : (s.extract i j).data.toList = (s.data.toList.drop i).take (j - i) := by
  rw [Lib.extract_data]
theorem data_from (s : ByteArray) (i : Nat) : (s.extract i s.size).data.toList = s.data.toList.drop i := by
  rw [data_extract, List.take_of_length_le (by rw [List.length_drop, data_len]; omega)]
theorem data_to (s : ByteArray) (j : Nat) : (s.extract 0 j).data.toList = s.data.toList.take j := by
  rw [data_extract, List.drop_zero, Nat.sub_zero]

/-- What integer.read rejects ahead of the digits. -/
def badInt (s T : ByteArray) : Bool := decide (T.size = 0) || decide (400 < T.size) || (decide (T.data.toList.head? = some 48) && decide (1 < s.size))
theorem intB_is {s T : ByteArray} (h : T.data.toList = Dc.intTail s.data.toList) : Dc.intB s.data.toList = (!badInt s T && T.data.toList.all Dc.isDig) := by
  rw [Dc.intB, ← h, badInt, data_len, data_len]
  have e1 : decide (T.size ≤ 400) = !decide (400 < T.size) := by
    by_cases hh : T.size ≤ 400
    · rw [decide_eq_true hh, decide_eq_false (by omega)]; rfl
    · rw [decide_eq_false hh, decide_eq_true (by omega)]; rfl
  have e2 : (T.size == 0) = decide (T.size = 0) := by by_cases hh : T.size = 0 <;> simp [hh]
  have e3 : (T.data.toList.head? == some 48) = decide (T.data.toList.head? = some 48) := by by_cases hh : T.data.toList.head? = some 48 <;> simp [hh]
  rw [e1, e2, e3]
  cases decide (T.size = 0) <;> cases decide (400 < T.size) <;> cases decide (T.data.toList.head? = some 48) <;> cases decide (1 < s.size) <;> rfl
theorem u8s_set (l : List Nat) (q x : Nat) : (u8s (l.set q x)).toArray = (u8s l).toArray.setIfInBounds q (.int .u8 (x : Int)) := by
  rw [u8s, u8s, List.setIfInBounds_toArray, List.map_set]
theorem head_at {s : ByteArray} {d : UInt8} (h : s.data.toList[0]? = some d) : s.data.toList.head? = some d := by rw [List.head?_eq_getElem?]; exact h

/-- How integer.read ends. -/
def IntEnd (x : Ending) (b : Bool) : Prop := ∃ g A n c, x = .returned (.tuple #[.agg #[.bool g, .slice A n c], .bool b])
set_option maxHeartbeats 1000000 in
set_option maxRecDepth 100000 in
theorem intread_any (s : ByteArray) (w : World) (hs : s.size ≤ 1073741824) : Calls Tryz.prog 64 #[.string s] w fun x w' => IntEnd x (Dc.intB s.data.toList) ∧ Below w.heap.size w w' := by
  have hmk := fun n h W => make_bytes n h W
  obtain ⟨X, hX⟩ : ∃ X, w.heap.size = X := ⟨_, rfl⟩
  obtain ⟨w1, hw1⟩ : ∃ w1 : World, (w.alloc (.cells #[.bool false, .slice none 0 0] 86)).alloc (.cells #[.bool false, .slice none 0 0] 86) = w1 := ⟨_, rfl⟩
  have hb1 : Below X w w1 := by rw [← hw1, ← hX]; exact ((Below.refl _ _).alloc (Nat.le_refl _) _).alloc (by simp) _
  have hX1 : w1.heap[X]? = some (.cells #[.bool false, .slice none 0 0] 86 (0, 0)) := by
    rw [← hw1, ← hX]; exact (Below.heap_alloc _ _ _ (by simp)).trans (heap_alloc_new w _)
  have hY1 : w1.heap[X + 1]? = some (.cells #[.bool false, .slice none 0 0] 86 (0, 0)) := by
    rw [← hw1, ← hX]
    have := heap_alloc_new (w.alloc (.cells #[.bool false, .slice none 0 0] 86)) (.cells #[.bool false, .slice none 0 0] 86)
    simpa using this
  have hsz1 : w1.heap.size = X + 2 := by rw [← hw1, ← hX]; simp
  obtain ⟨B, hB⟩ : ∃ B : Bool, (decide (1 < s.size) && decide (s.data.toList.head? = some 45)) = B := ⟨_, rfl⟩
  have HB := Lib.hid hB
  have HX := Lib.hid hX
  have HW1 := Lib.hid hw1
  have HX1 := Lib.hid hX1
  have HY1 := Lib.hid hY1
  clear hB hw1 hX1 hY1
  go_enter Tryz.func64, Tryz.ntmps64
  go_upto_region 3 with fail
  rw [HW1.out]
  go_cut [16] (fun c wx => c = .bool B ∧ wx = w1)
  case first =>
    by_cases h1 : 1 < s.size
    · have h1i : (1 : Int) < (s.size : Int) := by omega
      obtain ⟨d, hd⟩ : ∃ d : UInt8, s[0]'(by omega) = d := ⟨_, rfl⟩
      have HD := Lib.hid (byte_at (by omega) hd)
      by_cases h45 : d = 45
      · have h45f : ((d.toNat : Int) == 45) = true := by subst h45; rfl
        have H45 := Lib.hid h45
        clear h45
        go_wp2_with fail
        go_meet
        exact ⟨by rw [← HB.out, head_at HD.out, H45.out]; simp [h1], rfl⟩
      · have h45f : ((d.toNat : Int) == 45) = false := byte_ne (c := 45) rfl h45
        have H45 := Lib.hid h45
        clear h45
        go_wp2_with fail
        go_meet
        exact ⟨by rw [← HB.out, head_at HD.out]; simp [H45.out], rfl⟩
    · have h1i : ¬ (1 : Int) < (s.size : Int) := by omega
      go_wp2_with fail
      go_meet
      exact ⟨by rw [← HB.out]; simp [h1], rfl⟩
  case rest =>
    obtain ⟨rfl, hwc⟩ := hcut
    subst hwc
    go_upto_if 16 with fail
    go_cut [5] (fun s5 wx => ∃ (T : ByteArray) (g : Bool), s5 = .string T ∧ T.data.toList = Dc.intTail s.data.toList ∧ T.size ≤ s.size ∧ Below X w wx ∧ wx.heap.size = X + 2 ∧ wx.heap[X]? = some (.cells #[.bool false, .slice none 0 0] 86 (0, 0)) ∧ wx.heap[X + 1]? = some (.cells #[.bool g, .slice none 0 0] 86 (0, 0)))
    case first =>
      cases hBB : B with
      | true =>
        have hb := HB.out
        rw [hBB, Bool.and_eq_true] at hb
        have h1 : 1 < s.size := by simpa using hb.1
        have h45 : s.data.toList.head? = some 45 := by simpa using hb.2
        have h1i : (1 : Int) ≤ (s.size : Int) := by omega
        have y0 := at_block HY1.out 0 _ rfl
        have f0 := free_block HY1.out 0
        have H45 := Lib.hid h45
        clear hb h45 hBB
        go_wp2_with fail
        go_meet
        refine ⟨s.extract 1 s.size, true, rfl, ?_, by rw [ByteArray.size_extract]; omega, hb1.setCell (p := ⟨X + 1, 0, none⟩) (by show X ≤ X + 1; omega) _, by simp [World.setCell]; omega, ?_, ?_⟩
        · rw [data_from, Dc.intTail, if_pos ⟨by rw [data_len]; exact h1, H45.out⟩]
        · rw [Below.heap_setCell _ _ _ _ (show X ≠ X + 1 by omega)]; exact HX1.out
        · exact block_set HY1.out 0 _
      | false =>
        have hb := HB.out
        rw [hBB] at hb
        have HBF := Lib.hid hb
        clear hb hBB
        go_wp2_with fail
        go_meet
        refine ⟨s, false, rfl, ?_, Nat.le_refl _, hb1, hsz1, HX1.out, HY1.out⟩
        rw [Dc.intTail, if_neg]
        intro h
        have := HBF.out
        rw [data_len] at h
        simp [h.1, h.2] at this
    case rest =>
      obtain ⟨T, g, rfl, hT, hTs, hbc, hszc, hXc, hYc⟩ := hcut
      have hib := intB_is hT
      obtain ⟨bad, hbad⟩ : ∃ b, badInt s T = b := ⟨_, rfl⟩
      rw [hbad] at hib
      have HIB := Lib.hid hib
      have HBD := Lib.hid hbad
      have HXC := Lib.hid hXc
      have HYC := Lib.hid hYc
      clear hib hbad hXc hYc hT
      go_upto_region 6 with fail
      go_cut [37] (fun c wx => c = .bool bad ∧ wx = wc)
      case first =>
        by_cases h0 : T.size = 0
        · have h0f : ((T.size : Int) == 0) = true := by rw [beq_iff_eq]; omega
          have hbt : bad = true := by rw [← HBD.out, badInt]; simp [h0]
          have HBT := Lib.hid hbt
          clear hbt
          go_wp2_with fail
          go_meet
          exact ⟨by rw [HBT.out], rfl⟩
        · have h0f : ((T.size : Int) == 0) = false := beq_eq_false_iff_ne.2 (by omega)
          by_cases h4 : 400 < T.size
          · have h4i : (400 : Int) < (T.size : Int) := by omega
            have hbt : bad = true := by rw [← HBD.out, badInt]; simp [h4]
            have HBT := Lib.hid hbt
            clear hbt
            go_wp2_with fail
            go_meet
            exact ⟨by rw [HBT.out], rfl⟩
          · have h4i : ¬ (400 : Int) < (T.size : Int) := by omega
            have hpos : (0 : Int) < (T.size : Int) := by omega
            obtain ⟨d, hd⟩ : ∃ d : UInt8, T[0]'(by omega) = d := ⟨_, rfl⟩
            have HD := Lib.hid (byte_at (by omega) hd)
            by_cases h48 : d = 48
            · have h48f : ((d.toNat : Int) == 48) = true := by subst h48; rfl
              by_cases h1 : 1 < s.size
              · have h1i : (1 : Int) < (s.size : Int) := by omega
                have hbt : bad = true := by rw [← HBD.out, badInt, head_at HD.out, h48]; simp [h1]
                have HBT := Lib.hid hbt
                clear hbt h48
                go_wp2_with fail
                go_meet
                exact ⟨by rw [HBT.out], rfl⟩
              · have h1i : ¬ (1 : Int) < (s.size : Int) := by omega
                have hbt : bad = false := by rw [← HBD.out, badInt]; simp [h0, h1, h4]
                have HBT := Lib.hid hbt
                clear hbt h48
                go_wp2_with fail
                go_meet
                exact ⟨by rw [HBT.out], rfl⟩
            · have h48f : ((d.toNat : Int) == 48) = false := byte_ne (c := 48) rfl h48
              have hbt : bad = false := by rw [← HBD.out, badInt, head_at HD.out]; simp [h0, h48, h4]
              have HBT := Lib.hid hbt
              clear hbt h48
              go_wp2_with fail
              go_meet
              exact ⟨by rw [HBT.out], rfl⟩
      case rest =>
        obtain ⟨rfl, hwc⟩ := hcut
        subst hwc
        have x0 := at_block HXC.out 0 _ rfl
        have x1 := at_block HXC.out 1 _ rfl
        have fx0 := free_block HXC.out 0
        have fx1 := free_block HXC.out 1
        cases hbb : bad with
        | true =>
          have hfin := HIB.out
          rw [hbb] at hfin
          have HF := Lib.hid hfin
          clear hfin hbb
          go_wp2_with fail
          refine bodyPost_ret (v := .tuple #[.agg #[.bool false, .slice none 0 0], .bool false]) (by simp [results, Tryz.results64, go_sem, x0, x1]) rfl ?_
          refine ⟨⟨false, none, 0, 0, by rw [HF.out]; rfl⟩, ?_⟩
          try rw [HX.out]
          exact (hbc.setCell (p := ⟨X, 0, none⟩) (Nat.le_refl _) _).setCell (p := ⟨X, 1, none⟩) (Nat.le_refl _) _
        | false =>
          have hfin := HIB.out
          rw [hbb] at hfin
          have HF := Lib.hid hfin
          have y1 := at_block HYC.out 1 _ rfl
          have fy1 := free_block HYC.out 1
          have hmk2 := fun W => hmk T.size (by omega) W
          clear hfin hbb
          go_wp2_with fail
          have hbs : Below X w ((wc.setCell ⟨X + 1, 1, none⟩ (.slice (some ⟨X + 2, 0, none⟩) T.size T.size)).alloc (.cells (u8s (List.replicate T.size 0)).toArray 5)) :=
            (hbc.setCell (p := ⟨X + 1, 1, none⟩) (by show X ≤ X + 1; omega) _).alloc (by simp [World.setCell]; omega) _
          have hss : (wc.setCell ⟨X + 1, 1, none⟩ (.slice (some ⟨X + 2, 0, none⟩) T.size T.size)).heap.size = X + 2 := by simp [World.setCell]; exact hszc
          go_loopg [45] T.size (fun f i wx => ∃ (k : Nat) (lc : List Nat), i = .int .i64 k ∧ k ≤ T.size ∧ T.size ≤ k + f ∧ lc.length = T.size ∧ Below X w wx ∧ wx.heap[X]? = some (.cells #[.bool false, .slice none 0 0] 86 (0, 0)) ∧
            wx.heap[X + 1]? = some (.cells #[.bool g, .slice (some ⟨X + 2, 0, none⟩) T.size T.size] 86 (0, 0)) ∧ wx.heap[X + 2]? = some (.cells (u8s lc).toArray 5 (0, 0)) ∧ (T.data.toList.take k).all Dc.isDig = true)
          case atStart =>
            refine ⟨0, List.replicate T.size 0, rfl, by omega, by omega, by simp, hbs, ?_, ?_, ?_, by simp⟩
            · rw [Below.heap_alloc _ _ _ (by rw [hss]; omega), Below.heap_setCell _ _ _ _ (show X ≠ X + 1 by omega)]; exact HXC.out
            · rw [Below.heap_alloc _ _ _ (by rw [hss]; omega)]; exact block_set HYC.out 1 _
            · have := heap_alloc_new (wc.setCell ⟨X + 1, 1, none⟩ (.slice (some ⟨X + 2, 0, none⟩) T.size T.size)) (.cells (u8s (List.replicate T.size 0)).toArray 5)
              rw [hss] at this
              exact this
          case round =>
            obtain ⟨k, lc, rfl, hk, hf, hlc, hbx, hXx, hYx, hZx, hall⟩ := hrel
            have HXx := Lib.hid hXx
            have HYx := Lib.hid hYx
            have HZx := Lib.hid hZx
            have HAL := Lib.hid hall
            have hk0 : (0 : Int) ≤ k := by omega
            clear x0 x1 fx0 fx1 y1 fy1
            have x0 := at_block hXx 0 _ rfl
            have x1 := at_block hXx 1 _ rfl
            have fx0 := free_block hXx 0
            have fx1 := free_block hXx 1
            have y0 := at_block hYx 0 _ rfl
            have y1 := at_block hYx 1 _ rfl
            have fy1 := free_block hYx 1
            clear hXx hYx hall
            by_cases hlt : k < T.size
            · have hin : (k : Int) < (T.size : Int) := by omega
              obtain ⟨f, rfl⟩ : ∃ f, gk = f + 1 := ⟨gk - 1, by omega⟩
              obtain ⟨d, hd⟩ : ∃ d : UInt8, T[k]'hlt = d := ⟨_, rfl⟩
              have HD := Lib.hid (byte_at hlt hd)
              have hbadret : Dc.isDig d = false → Dc.intB s.data.toList = false := by
                intro h
                rw [HF.out]
                have : T.data.toList.all Dc.isDig = false := by
                  rw [← Bool.not_eq_true, List.all_eq_true]
                  intro h2
                  have := h2 d (List.mem_of_getElem? HD.out)
                  rw [h] at this; cases this
                rw [this]; rfl
              have HBR := Lib.hid hbadret
              clear hbadret
              by_cases h1 : d.toNat < 48
              · have h1i : (d.toNat : Int) < 48 := by omega
                go_wp2_with fail
                refine bodyPost_ret (v := .tuple #[.agg #[.bool false, .slice none 0 0], .bool false]) (by simp [results, Tryz.results64, go_sem, x0, x1]) rfl ?_
                refine ⟨⟨false, none, 0, 0, by rw [HBR.out (by rw [← Bool.not_eq_true, Dc.isDig_iff]; omega)]⟩, ?_⟩
                try rw [HX.out]
                exact (hbx.setCell (p := ⟨X, 0, none⟩) (Nat.le_refl _) _).setCell (p := ⟨X, 1, none⟩) (Nat.le_refl _) _
              · have h1i : ¬ (d.toNat : Int) < 48 := by omega
                by_cases h2 : 57 < d.toNat
                · have h2i : (57 : Int) < (d.toNat : Int) := by omega
                  go_wp2_with fail
                  refine bodyPost_ret (v := .tuple #[.agg #[.bool false, .slice none 0 0], .bool false]) (by simp [results, Tryz.results64, go_sem, x0, x1]) rfl ?_
                  refine ⟨⟨false, none, 0, 0, by rw [HBR.out (by rw [← Bool.not_eq_true, Dc.isDig_iff]; omega)]⟩, ?_⟩
                  try rw [HX.out]
                  exact (hbx.setCell (p := ⟨X, 0, none⟩) (Nat.le_refl _) _).setCell (p := ⟨X, 1, none⟩) (Nat.le_refl _) _
                · have h2i : ¬ (57 : Int) < (d.toNat : Int) := by omega
                  obtain ⟨q, hq⟩ : ∃ q, T.size - 1 - k = q := ⟨_, rfl⟩
                  have hqlt : q < T.size := by omega
                  have hqi : (T.size : Int) - 1 - (k : Int) = (q : Int) := by omega
                  have hw1 : IntKind.i64.wrap ((T.size : Int) - 1) = (T.size : Int) - 1 := IntWalk.i64_in _ (by omega)
                  have hw2 : IntKind.i64.wrap ((T.size : Int) - 1 - (k : Int)) = (q : Int) := by rw [hqi]; exact IntWalk.i64_in _ (by omega)
                  have hw3 : IntKind.u8.wrap ((d.toNat : Int) - 48) = (d.toNat : Int) - 48 := by rw [IntKind.wrap_u8]; omega
                  obtain ⟨uu, huu⟩ : ∃ uu, (u8s lc)[q]? = some uu := ⟨_, List.getElem?_eq_getElem (by rw [u8s_len]; omega)⟩
                  have z0 := at_block hZx q uu (by simpa using huu)
                  have fz0 := free_block hZx q
                  have hqi0 : (0 : Int) ≤ (q : Int) := by omega
                  have hqlti : (q : Int) < (T.size : Int) := by omega
                  clear hZx huu hqi
                  go_upto_region 14 with fail
                  go_region
                  go_wp2_with fail
                  go_roundg f
                  case measure => omega
                  case rel =>
                    refine ⟨k + 1, lc.set q (d.toNat - 48), by go_num, by omega, by omega, by rw [List.length_set, hlc], (hbx.setCell (p := ⟨X + 2, q, none⟩) (by show X ≤ X + 2; omega) _).drew, ?_, ?_, ?_, ?_⟩
                    · exact (Below.heap_setCell wr ⟨X + 2, q, none⟩ _ X (show X ≠ X + 2 by omega)).trans HXx.out
                    · exact (Below.heap_setCell wr ⟨X + 2, q, none⟩ _ (X + 1) (show X + 1 ≠ X + 2 by omega)).trans HYx.out
                    · rw [u8s_set, show ((d.toNat - 48 : Nat) : Int) = (d.toNat : Int) - 48 by omega]
                      exact block_set HZx.out q _
                    · rw [List.take_add_one, HD.out, List.all_append, HAL.out]
                      simp only [Option.toList_some, List.all_cons, List.all_nil, Bool.and_true, Bool.true_and]
                      exact Dc.isDig_iff.2 ⟨by omega, by omega⟩
            · obtain rfl : k = T.size := by omega
              have hin : ¬ (T.size : Int) < (T.size : Int) := by omega
              have hall2 : T.data.toList.all Dc.isDig = true := by
                have := HAL.out
                rwa [List.take_of_length_le (by rw [data_len]; omega)] at this
              have hfin : Dc.intB s.data.toList = true := by rw [HF.out, hall2]; rfl
              have HFI := Lib.hid hfin
              have hR := Reads.of_block hZx
              have hl2 : (u8s lc).length = T.size := by rw [u8s_len, hlc]
              rw [hl2] at hR
              have TR := Lib.hid (trim_any (some ⟨X + 2, 0, none⟩) T.size T.size lc wr hR (Nat.le_refl _) (by omega))
              clear hall2 hfin hR hl2 hZx
              go_wp2_with fail
              refine (TR.out).mono ?_
              rintro x w7 ⟨⟨m, rfl⟩, rfl⟩
              go_wp2_with fail
              refine bodyPost_ret (v := .tuple #[.agg #[.bool g, .slice (some ⟨X + 2, 0, none⟩) m T.size], .bool true]) (by simp [results, Tryz.results64, go_sem, x0, x1]) rfl ?_
              refine ⟨⟨g, some ⟨X + 2, 0, none⟩, m, T.size, by rw [HFI.out]⟩, ?_⟩
              try rw [HX.out]
              exact ((hbx.setCell (p := ⟨X + 1, 1, none⟩) (by show X ≤ X + 1; omega) _).setCell (p := ⟨X, 0, none⟩) (Nat.le_refl _) _).setCell (p := ⟨X, 1, none⟩) (Nat.le_refl _) _

set_option maxHeartbeats 1000000 in
set_option maxRecDepth 100000 in
theorem intvalid_any (s : ByteArray) (w : World) (hs : s.size ≤ 1073741824) : Calls Tryz.prog 42 #[.string s] w fun x w' => x = .returned (.bool (Dc.intB s.data.toList)) ∧ Below w.heap.size w w' := by
  obtain ⟨b, hb⟩ : ∃ b, Dc.intB s.data.toList = b := ⟨_, rfl⟩
  have IR := Lib.hid (intread_any s w hs)
  rw [hb] at IR ⊢
  clear hb
  go_enter Tryz.func42, Tryz.ntmps42
  go_wp2_with fail
  refine (IR.out).mono ?_
  rintro x w7 ⟨⟨g, A, n, c, rfl⟩, hb7⟩
  go_wp2_with fail
  go_ret
  exact ⟨rfl, hb7.alloc hb7.size _⟩
end Go.Proofs.YtmgafnflkfbckaaGreatDoor
