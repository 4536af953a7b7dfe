/- The contracts of Parse and Of. -/
import Derived.Test.YtmgafnflkfbckaaGreatDoorWalkI
namespace Go.Proofs.YtmgafnflkfbckaaGreatDoor
open Go.RowKit Go.Lib

namespace Dc
theorem tail_bound {K : Nat} {l : List UInt8} {k : Int} (h : numTail K l = some k) : -(K : Int) ≤ k ∧ k ≤ (K : Int) := by
  cases l with
  | nil => rw [numTail] at h; injection h with h; omega
  | cons b r =>
    rw [numTail] at h
    by_cases hb : b = 101 ∨ b = 69
    · rw [if_pos hb] at h
      simp only at h
      generalize (if r.head? = some 45 ∨ r.head? = some 43 then r.drop 1 else r) = t at h
      have hs := smallN_le K t
      by_cases h1 : t = [] ∨ runN t ≠ t.length
      · rw [if_pos h1] at h; cases h
      · rw [if_neg h1] at h
        by_cases h2 : r.head? = some 45
        · rw [if_pos h2] at h; injection h with h; omega
        · rw [if_neg h2] at h; injection h with h; omega
    · rw [if_neg hb] at h; cases h
theorem frac_bound {K : Nat} {c : List Nat} {s : List UInt8} {p : List Nat × Int} (hc : Digs c) (h : numFrac K c s = some p) : Digs p.1 ∧ p.1.length ≤ c.length + s.length ∧ -(K : Int) - s.length ≤ p.2 ∧ p.2 ≤ (K : Int) := by
  rw [numFrac] at h
  split at h
  · split at h
    · cases h
    · obtain ⟨k, hk, rfl⟩ := Option.map_eq_some_iff.1 h
      have hb := tail_bound hk
      have hr := runN_le (s.drop 1)
      rw [List.length_drop] at hr
      refine ⟨?_, ?_, ?_, ?_⟩
      · intro x hx
        rcases List.mem_append.1 hx with hx | hx
        · exact hc x hx
        · exact vals_digs runN_dig x hx
      · simp only [List.length_append, vals, List.length_map, List.length_take, List.length_drop]; omega
      · simp only; omega
      · simp only; omega
  · obtain ⟨k, hk, rfl⟩ := Option.map_eq_some_iff.1 h
    have hb := tail_bound hk
    exact ⟨hc, by simp only; omega, by simp only; omega, by simp only; omega⟩
theorem unsign_len (l : List UInt8) : (unsign l).length ≤ l.length := by
  rw [unsign]
  split
  · rw [List.length_drop]; omega
  · exact Nat.le_refl _
theorem numP_bound {K : Nat} {l : List UInt8} {y : D} (h : numP K l = some y) : Normal y ∧ y.c.length ≤ l.length ∧ -(K : Int) - l.length ≤ y.e ∧ y.e ≤ (K : Int) + l.length := by
  rw [numP] at h
  split at h
  · cases h
  · obtain ⟨p, hp, rfl⟩ := Option.map_eq_some_iff.1 h
    have hu := unsign_len l
    have hr := runN_le (unsign l)
    obtain ⟨h1, h2, h3, h4⟩ := frac_bound (vals_digs runN_dig) hp
    simp only [vals, List.length_map, List.length_take, List.length_drop] at h2 h3
    have h5 := norm_len (l.head? == some 45) p.1 p.2
    have h6 := norm_e (l.head? == some 45) p.1 p.2
    exact ⟨norm_normal h1, by omega, by omega, by omega⟩
end Dc

/-- A number in letters. -/
theorem num_letters (y : Dc.D) : ∃ (g : Bool) (l : List Nat) (e : Int) (n : Nat), y.neg = g ∧ y.c = l ∧ y.e = e ∧ l.length = n ∧ y = ⟨g, l, e⟩ := ⟨_, _, _, _, rfl, rfl, rfl, rfl, rfl⟩

/-- What Parse answers. -/
def parseV (l : List UInt8) : Value := match Dc.numP KP l with
  | none => .tuple #[.string ⟨#[]⟩, .int .i64 3]
  | some y => resV y
/-- A result is a tuple of a string and an error. -/
theorem resV_form (y : Dc.D) : ∃ (T : ByteArray) (m : Nat), resV y = .tuple #[.string T, .int .i64 (m : Int)] := by
  rw [resV]
  split
  · exact ⟨_, 0, rfl⟩
  · exact ⟨_, _, rfl⟩
set_option maxHeartbeats 1000000 in
set_option maxRecDepth 100000 in
theorem parse_any (s : ByteArray) (w : World) (hs : s.size ≤ 1048576) (hL : Laid w) : Calls Tryz.prog 14 #[.string s] w fun x w' => x = .returned (parseV s.data.toList) ∧ Below w.heap.size w w' := by
  have NU := (numeral_any s w hs)
  cases hn : Dc.numP KP s.data.toList with
  | none =>
    have hv : parseV s.data.toList = .tuple #[.string ⟨#[]⟩, .int .i64 3] := by rw [parseV, hn]
    rw [hv]
    rw [hn] at NU
    have N2 : Calls Tryz.prog 28 #[.string s] w fun x w' => (∃ g A n e, x = .returned (.tuple #[.agg #[.bool g, .slice A n n, .int .i64 e], .bool false])) ∧ Below w.heap.size w w' :=
      NU.mono fun x w' ⟨⟨g, A, n, e, h1, _⟩, hb⟩ => ⟨⟨g, A, n, e, h1⟩, hb⟩
    have HN := Lib.hid N2
    clear NU N2 hn hv
    go_enter Tryz.func14, Tryz.ntmps14
    go_wp2_with fail
    refine (HN.out).mono ?_
    rintro x w7 ⟨⟨g, A, n, e, rfl⟩, hb7⟩
    go_wp2_with fail
    go_ret2
    exact ⟨rfl, hb7.alloc hb7.size _⟩
  | some y =>
    have hbd := Dc.numP_bound hn
    rw [data_len] at hbd
    obtain ⟨g, l, e, n, hg, hl, he, hln, hy⟩ := num_letters y
    obtain ⟨T, m, hT⟩ := resV_form y
    have hv : parseV s.data.toList = .tuple #[.string T, .int .i64 (m : Int)] := by rw [parseV, hn]; exact hT
    rw [hv]
    rw [hn] at NU
    have N2 : Calls Tryz.prog 28 #[.string s] w fun x w' => ∃ A, x = .returned (.tuple #[.agg #[.bool g, .slice A n n, .int .i64 e], .bool true]) ∧ Reads w' w'.heap.size A n (u8s l) ∧ Below w.heap.size w w' := by
      refine NU.mono ?_
      rintro x w' ⟨⟨g', A, n', e', rfl, h⟩, hb⟩
      obtain ⟨rfl, rfl, rfl, hr⟩ := h y rfl
      rw [hl, hln] at hr
      exact ⟨A, by rw [hg, hl, he, hln]; rfl, hr, hb⟩
    have hdig : Dc.Digs l := hl ▸ hbd.1.1
    rw [hl, he, hln] at hbd
    have hK : ((KP : Nat) : Int) = 1099511627776 := rfl
    have heb : -4611686018427387904 ≤ e ∧ e ≤ 4611686018427387904 := by omega
    have RE := Lib.hid (fun A W hW hLW => result_any g A n l e W hW hdig (by omega) heb hLW)
    rw [← hy, hT] at RE
    have HN := Lib.hid N2
    have HL := Lib.hid hL
    clear hK NU N2 hn hv hbd hg hl he hln hy hT hdig hL
    go_enter Tryz.func14, Tryz.ntmps14
    go_wp2_with fail
    refine (HN.out).mono ?_
    rintro x w7 ⟨A, rfl, hr7, hb7⟩
    obtain ⟨w2, X, hw2, hX, hb2, hX2, hcells⟩ := box_num g A n n e w7
    have hr2 := hr7.on hb2
    have hL2 := (HL.out.on hb7).on hb2
    obtain ⟨q0, q1, q2, _⟩ := hcells w2 (Below.refl _ _)
    have HW2 := Lib.hid hw2
    have HXX := Lib.hid hX
    have HR2 := Lib.hid hr2
    have HL2 := Lib.hid hL2
    clear hcells hw2 hX hr7 hr2 hL2
    go_upto_region 4 with fail
    rw [HW2.out, HXX.out]
    go_wp2_with fail
    refine (RE.out _ _ HR2.out HL2.out).mono ?_
    rintro x w8 ⟨rfl, hb8⟩
    go_wp2_with fail
    go_ret2
    exact ⟨rfl, hb7.trans ((hb2.trans (hb8.mono hb2.size)).mono hb7.size)⟩
end Go.Proofs.YtmgafnflkfbckaaGreatDoor
