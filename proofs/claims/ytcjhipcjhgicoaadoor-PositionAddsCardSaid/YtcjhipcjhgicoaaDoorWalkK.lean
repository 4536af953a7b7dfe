/- The contract of the reference's Indent. -/
import Derived.Test.YtcjhipcjhgicoaaDoorWalkJ
import Derived.Test.YtcjhipcjhgicoaaDoorWalkF
namespace Go.Proofs.YtcjhipcjhgicoaaDoor
open Go.RowKit Go.Lib

namespace Po
theorem tw_in (p : UInt8 → Bool) : ∀ (l : List UInt8) (k : Nat), k < (l.takeWhile p).length → ∃ d, l[k]? = some d ∧ p d = true
  | [], k, h => by simp at h
  | x :: l, k, h => by
    rw [List.takeWhile_cons] at h
    split at h
    · rename_i hp
      cases k with
      | zero => exact ⟨x, rfl, hp⟩
      | succ k => exact tw_in p l k (by simpa using h)
    · simp at h
theorem tw_out (p : UInt8 → Bool) : ∀ (l : List UInt8) (d : UInt8), l[(l.takeWhile p).length]? = some d → p d = false
  | [], d, h => by simp at h
  | x :: l, d, h => by
    rw [List.takeWhile_cons] at h
    split at h
    · exact tw_out p l d (by simpa using h)
    · rename_i hp
      simp at h
      subst h
      simpa using hp
theorem index_contains (l : List UInt8) (c : UInt8) : decide (0 ≤ Lib.indexByte l c) = l.contains c := by
  have key : ∀ l : List UInt8, -1 ≤ Lib.indexByte l c ∧ (0 ≤ Lib.indexByte l c ↔ l.contains c = true) := by
    intro l
    induction l with
    | nil => simp [Lib.indexByte]
    | cons b l ih =>
      obtain ⟨h1, h2⟩ := ih
      by_cases hb : b = c
      · subst hb; simp [Lib.indexByte]
      · have hb' : ¬ c = b := fun e => hb e.symm
        by_cases hm : Lib.indexByte l c = -1
        · have h3 : ¬ 0 ≤ Lib.indexByte l c := by omega
          rw [h2] at h3
          simp only [Lib.indexByte]
          simp [hb, hm]
          refine ⟨hb', ?_⟩
          simpa using h3
        · have h3 : 0 ≤ Lib.indexByte l c := by omega
          have h4 := h2.1 h3
          simp only [Lib.indexByte]
          simp [hb, hm]
          refine ⟨by omega, ?_⟩
          constructor
          · intro _; right; simpa using h4
          · intro _; omega
  rw [Bool.eq_iff_iff, decide_eq_true_eq]
  exact (key l).2
theorem tab_eq (l : List UInt8) : tab l = (l.take (wh l)).contains 9 := by rw [tab, index_contains]
theorem sp_le_wh (l : List UInt8) : sp l ≤ wh l := by
  rcases Nat.lt_or_ge (wh l) (sp l) with h | h
  · exfalso
    obtain ⟨d, h1, h2⟩ := tw_in _ l (wh l) h
    have h3 := tw_out _ l d h1
    have : d = 32 := by simpa using h2
    subst this
    simp at h3
  · exact h
theorem take_none (l : List UInt8) : (l.take (sp l)).contains 9 = false := by
  rw [← Bool.not_eq_true]
  intro h
  simp only [List.contains_eq_mem, decide_eq_true_eq] at h
  obtain ⟨k, hk⟩ := List.getElem?_of_mem h
  rw [List.getElem?_take] at hk
  split at hk
  · rename_i hlt
    obtain ⟨d, h1, h2⟩ := tw_in _ l k hlt
    rw [hk] at h1
    obtain rfl := Option.some.inj h1
    simp at h2
  · cases hk
theorem take_snoc9 {l : List UInt8} {k : Nat} {d : UInt8} (h : l[k]? = some d) : (l.take (k + 1)).contains 9 = ((l.take k).contains 9 || (d == 9)) := by
  rw [List.take_add_one, h]
  by_cases hd : d = 9
  · subst hd; simp
  · have hd' : ¬ (9 : UInt8) = d := fun e => hd e.symm
    simp [hd, hd']
end Po
theorem byte_ne {d c : UInt8} {n : Int} (hn : (c.toNat : Int) = n) (h : ¬ d = c) : ((d.toNat : Int) == n) = false := by
  subst hn
  simp only [beq_eq_false_iff_ne, ne_eq]
  intro h'
  exact h (UInt8.toNat_inj.1 (by omega))

set_option maxHeartbeats 4000000 in
set_option maxRecDepth 100000 in
theorem refindent_any (s : ByteArray) (w : World) (hs : s.size ≤ 9223372036854775807) : Calls Tryd.prog 21 #[.string s] w fun e w' => e = .returned (.tuple #[.int .i64 (Po.sp s.data.toList : Int), .bool (Po.tab s.data.toList)]) ∧ w' = w := by
  have hsl : s.data.toList.length = s.size := by simp
  have h1 := Po.sp_le s.data.toList
  have h2 := Po.wh_le s.data.toList
  have h3 := Po.sp_le_wh s.data.toList
  have HIN := Lib.hid (Po.tw_in (· == 32) s.data.toList)
  have HOUT := Lib.hid (Po.tw_out (· == 32) s.data.toList)
  have WIN := Lib.hid (Po.tw_in ([32, 9].contains ·) s.data.toList)
  have WOUT := Lib.hid (Po.tw_out ([32, 9].contains ·) s.data.toList)
  have HT0 := Lib.hid (Po.take_none s.data.toList)
  have HT1 := Lib.hid (Po.tab_eq s.data.toList)
  have e1 : Po.sp s.data.toList = (s.data.toList.takeWhile (· == 32)).length := rfl
  have e2 : Po.wh s.data.toList = (s.data.toList.takeWhile ([32, 9].contains ·)).length := rfl
  rw [← e1] at HIN HOUT
  rw [← e2] at WIN WOUT
  rw [hsl] at h1 h2
  obtain ⟨a, ha⟩ : ∃ a, Po.sp s.data.toList = a := ⟨_, rfl⟩
  obtain ⟨b, hb⟩ : ∃ b, Po.wh s.data.toList = b := ⟨_, rfl⟩
  rw [ha] at HIN HOUT HT0 h1 h3 ⊢
  rw [hb] at WIN WOUT HT1 h2 h3
  clear e1 e2 ha hb hsl
  go_enter Tryd.func21, Tryd.ntmps21
  go_wp2
  go_loopg [4] a (fun g i wx => ∃ k : Nat, i = .int .i64 k ∧ k ≤ a ∧ wx = w ∧ a ≤ k + g)
  case atStart => exact ⟨0, rfl, by omega, rfl, by omega⟩
  case round =>
    obtain ⟨k, rfl, hk, rfl, hg⟩ := hrel
    have hi0 : (0 : Int) ≤ k := by omega
    by_cases hlt : k < a
    · have hks : k < s.size := by omega
      have hin : (k : Int) < s.size := by omega
      obtain ⟨g, rfl⟩ : ∃ g, gk = g + 1 := ⟨gk - 1, by omega⟩
      obtain ⟨d, hd⟩ : ∃ d : UInt8, s[k]'hks = d := ⟨_, rfl⟩
      have hd' := byte_at hks hd
      have h10 : ((d.toNat : Int) == 32) = true := by
        obtain ⟨d', h5, h6⟩ := HIN.out k hlt
        rw [hd'] at h5
        obtain rfl := Option.some.inj h5
        have : d = 32 := by simpa using h6
        subst this; rfl
      clear hd'
      go_wp2
      go_roundg g
      case measure => omega
      case rel => exact ⟨k + 1, by go_num, by omega, rfl, by omega⟩
    · obtain rfl : k = a := by omega
      have HKB := Lib.hid h3
      by_cases hks : k < s.size
      · have hin : (k : Int) < s.size := by omega
        obtain ⟨d, hd⟩ : ∃ d : UInt8, s[k]'hks = d := ⟨_, rfl⟩
        have hd' := byte_at hks hd
        have h10 : ((d.toNat : Int) == 32) = false := by
          have h5 := HOUT.out d hd'
          exact byte_ne (c := 32) rfl (fun e => by subst e; simp at h5)
        clear hd'
        go_wp2
        go_loopg [5, 6] b (fun g t i wx => ∃ (j : Nat) (t' : Bool), i = .int .i64 j ∧ t = .bool t' ∧ t' = (s.data.toList.take j).contains 9 ∧ k ≤ j ∧ j ≤ b ∧ wx = wr ∧ b ≤ j + g)
        case atStart => exact ⟨k, false, rfl, rfl, HT0.out.symm, by omega, HKB.out, rfl, by omega⟩
        case round =>
          obtain ⟨j, t, rfl, rfl, ht, hkj, hj, rfl, hg2⟩ := hrel
          have hj0 : (0 : Int) ≤ j := by omega
          have HT := Lib.hid ht
          clear ht
          by_cases hlj : j < b
          · have hjs : j < s.size := by omega
            have hjn : (j : Int) < s.size := by omega
            obtain ⟨g, rfl⟩ : ∃ g, gk = g + 1 := ⟨gk - 1, by omega⟩
            obtain ⟨x, hx⟩ : ∃ x : UInt8, s[j]'hjs = x := ⟨_, rfl⟩
            have hx' := byte_at hjs hx
            obtain ⟨x', h5, h6⟩ := WIN.out j hlj
            rw [hx'] at h5
            obtain rfl := Option.some.inj h5
            have HS := Lib.hid (Po.take_snoc9 hx')
            by_cases h9 : x = 9
            · have hx9 : ((x.toNat : Int) == 9) = true := by subst h9; rfl
              have hx32 : ((x.toNat : Int) == 32) = false := by subst h9; rfl
              have HX9 := Lib.hid h9
              clear h9 h6 h5 hx'
              go_wp2
              go_roundg g
              case measure => omega
              case rel => exact ⟨j + 1, true, by go_num, rfl, by rw [HS.out, HX9.out]; simp, by omega, by omega, rfl, by omega⟩
            · have hx9 : ((x.toNat : Int) == 9) = false := byte_ne (c := 9) rfl h9
              have hx32 : ((x.toNat : Int) == 32) = true := by
                have : x = 32 := by simpa [h9] using h6
                subst this; rfl
              have HX9 := Lib.hid h9
              clear h9 h6 h5 hx'
              go_wp2
              go_roundg g
              case measure => omega
              case rel => exact ⟨j + 1, t, by go_num, rfl, by rw [HS.out, HT.out, beq_eq_false_iff_ne.2 HX9.out]; simp, by omega, by omega, rfl, by omega⟩
          · obtain rfl : j = b := by omega
            have HR := Lib.hid (show Po.tab s.data.toList = t by rw [HT1.out, HT.out])
            by_cases hjs : j < s.size
            · have hjn : (j : Int) < s.size := by omega
              obtain ⟨x, hx⟩ : ∃ x : UInt8, s[j]'hjs = x := ⟨_, rfl⟩
              have hx' := byte_at hjs hx
              have h5 := WOUT.out x hx'
              have hx9 : ((x.toNat : Int) == 9) = false := byte_ne (c := 9) rfl (fun e => by subst e; simp at h5)
              have hx32 : ((x.toNat : Int) == 32) = false := byte_ne (c := 32) rfl (fun e => by subst e; simp at h5)
              clear h5 hx'
              go_wp2
              go_ret2
              exact ⟨by rw [HR.out]; rfl, rfl⟩
            · have hjn : ¬ (j : Int) < s.size := by omega
              go_wp2
              go_ret2
              exact ⟨by rw [HR.out]; rfl, rfl⟩
      · have hin : ¬ (k : Int) < s.size := by omega
        go_wp2
        go_loopg [5, 6] b (fun g t i wx => ∃ (j : Nat) (t' : Bool), i = .int .i64 j ∧ t = .bool t' ∧ t' = (s.data.toList.take j).contains 9 ∧ k ≤ j ∧ j ≤ b ∧ wx = wr ∧ b ≤ j + g)
        case atStart => exact ⟨k, false, rfl, rfl, HT0.out.symm, by omega, HKB.out, rfl, by omega⟩
        case round =>
          obtain ⟨j, t, rfl, rfl, ht, hkj, hj, rfl, hg2⟩ := hrel
          have hj0 : (0 : Int) ≤ j := by omega
          have HT := Lib.hid ht
          clear ht
          by_cases hlj : j < b
          · have hjs : j < s.size := by omega
            have hjn : (j : Int) < s.size := by omega
            obtain ⟨g, rfl⟩ : ∃ g, gk = g + 1 := ⟨gk - 1, by omega⟩
            obtain ⟨x, hx⟩ : ∃ x : UInt8, s[j]'hjs = x := ⟨_, rfl⟩
            have hx' := byte_at hjs hx
            obtain ⟨x', h5, h6⟩ := WIN.out j hlj
            rw [hx'] at h5
            obtain rfl := Option.some.inj h5
            have HS := Lib.hid (Po.take_snoc9 hx')
            by_cases h9 : x = 9
            · have hx9 : ((x.toNat : Int) == 9) = true := by subst h9; rfl
              have hx32 : ((x.toNat : Int) == 32) = false := by subst h9; rfl
              have HX9 := Lib.hid h9
              clear h9 h6 h5 hx'
              go_wp2
              go_roundg g
              case measure => omega
              case rel => exact ⟨j + 1, true, by go_num, rfl, by rw [HS.out, HX9.out]; simp, by omega, by omega, rfl, by omega⟩
            · have hx9 : ((x.toNat : Int) == 9) = false := byte_ne (c := 9) rfl h9
              have hx32 : ((x.toNat : Int) == 32) = true := by
                have : x = 32 := by simpa [h9] using h6
                subst this; rfl
              have HX9 := Lib.hid h9
              clear h9 h6 h5 hx'
              go_wp2
              go_roundg g
              case measure => omega
              case rel => exact ⟨j + 1, t, by go_num, rfl, by rw [HS.out, HT.out, beq_eq_false_iff_ne.2 HX9.out]; simp, by omega, by omega, rfl, by omega⟩
          · obtain rfl : j = b := by omega
            have HR := Lib.hid (show Po.tab s.data.toList = t by rw [HT1.out, HT.out])
            by_cases hjs : j < s.size
            · have hjn : (j : Int) < s.size := by omega
              obtain ⟨x, hx⟩ : ∃ x : UInt8, s[j]'hjs = x := ⟨_, rfl⟩
              have hx' := byte_at hjs hx
              have h5 := WOUT.out x hx'
              have hx9 : ((x.toNat : Int) == 9) = false := byte_ne (c := 9) rfl (fun e => by subst e; simp at h5)
              have hx32 : ((x.toNat : Int) == 32) = false := byte_ne (c := 32) rfl (fun e => by subst e; simp at h5)
              clear h5 hx'
              go_wp2
              go_ret2
              exact ⟨by rw [HR.out]; rfl, rfl⟩
            · have hjn : ¬ (j : Int) < s.size := by omega
              go_wp2
              go_ret2
              exact ⟨by rw [HR.out]; rfl, rfl⟩
end Go.Proofs.YtcjhipcjhgicoaaDoor
