/- The contracts of the reference's 'At' and 'Decode'. -/
import Derived.Test.YtdbbacmnlmkilaaDoorWalkE
namespace Go.Proofs.YtdbbacmnlmkilaaDoor
open Go.RowKit Go.Lib

/-- What '[]byte(s)' gives, in whatever world. -/
theorem bytes_of (W : World) (s : ByteArray) : ∃ (cap : Nat) (W' : World), (convert 9 54 (.string s)).run Tryd.prog W = .ok (.slice (some ⟨W.heap.size, 0, none⟩) s.size cap) W' ∧ Below W.heap.size W W' ∧ W.heap.size < W'.heap.size ∧ s.size ≤ cap ∧
    ∀ j d, s.data.toList[j]? = some d → W'.cell? ⟨W.heap.size, j, none⟩ = some (.int .u8 (UInt8.toNat d : Int)) := by
  refine ⟨_, _, run_bytes_of_string W 9 54 5 s Tryd.underlying9 Tryd.underlying54 Tryd.underlying5, ((Below.refl _ _).drew.alloc (Nat.le_refl _) _), by simp, ?_, ?_⟩
  · exact grownCap_ge W s.size 0 5
  · intro j d hd
    have hj : j < s.data.toList.length := (List.getElem?_eq_some_iff.1 hd).1
    simp only [World.cell?]
    show (match (W.heap.push _)[W.heap.size]? with | some (.cells c _ _) => if (Option.isSome (none : Option _)) then none else c[j]? | _ => none) = _
    simp only [Array.getElem?_push_size, Option.isSome_none, Bool.false_eq_true, if_false]
    unfold bytesRow
    have hd' : s.data[j]? = some d := by simpa using hd
    have hj' : j < s.data.size := by simpa using hj
    rw [Array.getElem?_append_left (by simpa using hj')]
    simp [hd']

set_option maxHeartbeats 1000000 in
set_option maxRecDepth 100000 in
/-- 'At': the announced sequence, or none. -/
theorem at_any (s : ByteArray) (p : Nat) (w : World) (hp : p < s.size) (hs : s.size ≤ 1073741824) :
    Calls Tryd.prog 22 #[.string s, .int .i64 (p : Int)] w fun e w' =>
      e = .returned (.tuple #[.int .i64 ((Cp.at1 (s.data.toList.drop p)).1 : Int), .int .i64 ((Cp.at1 (s.data.toList.drop p)).2 : Int)]) ∧ Below w.heap.size w w' := by
  obtain ⟨cap, W', hrun, hbW, hlt, hcap, hcell⟩ := bytes_of w s
  have hpc : ¬ cap = p := by omega
  have hcp : p < cap := by omega
  have HC := Lib.hid hcell
  have hlen : s.data.toList.length = s.size := Cp.len_data s
  have HL := Lib.hid hlen
  clear hcell hlen
  go_enter Tryd.func22, Tryd.ntmps22
  go_wp2
  go_loopg [7] 4 (fun g k wx => W' = wx ∧ ∃ j : Nat, k = .int .i64 (j + 1 : Nat) ∧ Cp.atFrom (4 - j) (j + 1) (s.data.toList.drop p) = Cp.at1 (s.data.toList.drop p) ∧ j ≤ 4 ∧ g = 4 - j)
  case atStart => exact ⟨rfl, 0, rfl, rfl, by omega, by omega⟩
  case round =>
    obtain ⟨rfl, j, rfl, ha, hj, rfl⟩ := hrel
    have HA := Lib.hid ha
    clear ha
    by_cases h1 : j + 1 ≤ 4 ∧ p + (j + 1) ≤ s.size
    · obtain ⟨h1a, h1b⟩ := h1
      have hlt : j + 1 ≤ ((s.data.toList.drop p)).length := by rw [List.length_drop, HL.out]; omega
      have htl : ((s.data.toList.drop p).take (j + 1)).length = j + 1 := by rw [List.length_take]; omega
      have cB := begins_any ((s.data.toList.drop p).take (j + 1)) w.heap.size p (cap - p) W' (fun i d hd => HC.out (p + i) d (by
        have hi : i < j + 1 := by have := (List.getElem?_eq_some_iff.1 hd).1; omega
        rw [List.getElem?_take_of_lt hi, List.getElem?_drop] at hd; exact hd)) (by omega) (by omega)
      have e4 : 4 - j = (3 - j) + 1 := by omega
      have hstep : (Cp.begins ((s.data.toList.drop p).take (j + 1))).2 = j + 1 → Cp.at1 (s.data.toList.drop p) = Cp.begins ((s.data.toList.drop p).take (j + 1)) := by
        intro hb
        rw [← HA.out, e4]; unfold Cp.atFrom; rw [if_pos hlt, if_pos hb]
      have hgo : (Cp.begins ((s.data.toList.drop p).take (j + 1))).2 ≠ j + 1 → Cp.atFrom (4 - (j + 1)) (j + 1 + 1) (s.data.toList.drop p) = Cp.at1 (s.data.toList.drop p) := by
        intro hb
        rw [← HA.out, e4]
        conv => rhs; unfold Cp.atFrom
        rw [if_pos hlt, if_neg hb, show 4 - (j + 1) = 3 - j by omega]
      rw [htl] at cB
      obtain ⟨bv, hbv⟩ : ∃ bv, Cp.begins ((s.data.toList.drop p).take (j + 1)) = bv := ⟨_, rfl⟩
      rw [hbv] at cB hstep hgo
      obtain ⟨v, n⟩ := bv
      simp only at cB hstep hgo
      have CB := Lib.hid cB
      have HS := Lib.hid hstep
      have HG := Lib.hid hgo
      clear cB hstep hgo hbv htl e4
      by_cases hn : n = j + 1
      · have hn1 : ((n : Int) == (j : Int) + 1) = true := by simp; omega
        have HN := Lib.hid hn
        clear hn
        go_wp2_with (go_at_call 27; go_fit (CB.out); rintro e w' ⟨rfl, rfl⟩)
        go_ret2
        rw [HS.out HN.out]
        exact ⟨rfl, hbW⟩
      · have hn1 : ((n : Int) == (j : Int) + 1) = false := by simp; omega
        have HN := Lib.hid hn
        clear hn
        go_wp2_with (go_at_call 27; go_fit (CB.out); rintro e w' ⟨rfl, rfl⟩)
        go_roundg (3 - j)
        case measure => omega
        case rel => exact ⟨rfl, j + 1, by go_num, HG.out HN.out, by omega, by omega⟩
    · have hz : Cp.at1 (s.data.toList.drop p) = (0, 0) := by
        rw [← HA.out]
        by_cases hj4 : j = 4
        · subst hj4; rfl
        · rw [show 4 - j = (3 - j) + 1 by omega]
          unfold Cp.atFrom
          rw [if_neg (by rw [List.length_drop, HL.out]; omega)]
      have HZ := Lib.hid hz
      clear hz
      by_cases hj4 : j + 1 ≤ 4
      · have h2 : ¬ p + (j + 1) ≤ s.size := fun h => h1 ⟨hj4, h⟩
        have h2' : ¬ (p : Int) + ((j : Int) + 1) ≤ s.size := by omega
        clear h1
        go_wp2
        go_ret2
        rw [HZ.out]
        exact ⟨rfl, hbW⟩
      · clear h1
        go_wp2
        go_ret2
        rw [HZ.out]
        exact ⟨rfl, hbW⟩
end Go.Proofs.YtdbbacmnlmkilaaDoor
