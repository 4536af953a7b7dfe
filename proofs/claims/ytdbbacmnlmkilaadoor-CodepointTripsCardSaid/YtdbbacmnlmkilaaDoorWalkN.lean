/- The contract of codepoint.Encode. -/
import Derived.Test.YtdbbacmnlmkilaaDoorWalkM
namespace Go.Proofs.YtdbbacmnlmkilaaDoor
open Go.RowKit Go.Lib
open Go.WideShapes (add_plain)

theorem Cp.encs_le (zs : List Int) : (Cp.encs zs).length ≤ 4 * zs.length := by
  induction zs with
  | nil => simp [Cp.encs_nil]
  | cons z zs ih =>
    have h := runeCells_le z
    rw [runeCells_length] at h
    rw [Cp.encs_cons, List.length_append, List.length_cons]
    omega
theorem Cp.encs_snoc (zs : List Int) (k : Nat) (z : Int) (h : zs[k]? = some z) : Cp.encs (zs.take (k + 1)) = Cp.encs (zs.take k) ++ encodeRune z := by
  rw [List.take_add_one, h, Cp.encs_append]
  simp [Cp.encs]
theorem i32_at {l : List Int} {k : Nat} {u : Value} (h : (i32s l)[k]? = some u) : ∃ r : Int, l[k]? = some r ∧ u = .int .i32 r := by
  simp only [i32s, List.getElem?_map, Option.map_eq_some_iff] at h
  obtain ⟨s, h1, rfl⟩ := h
  exact ⟨s, h1, rfl⟩
/-- What Encode answers. -/
def EncPost (zs : List Int) (w : World) (e : Ending) (w' : World) : Prop :=
  (((∀ z ∈ zs, Cp.valid z = true) ∧ e = .returned (.tuple #[.string ⟨(Cp.encs zs).toArray⟩, .int .i64 0])) ∨ ((∃ z ∈ zs, Cp.valid z = false) ∧ e = .returned (.tuple #[.string ⟨#[]⟩, .int .i64 11]))) ∧ Below w.heap.size w w'

set_option maxHeartbeats 2000000 in
set_option maxRecDepth 100000 in
theorem encode_any (zs : List Int) (A : Option Addr) (n c : Nat) (w : World) (hr : Reads w w.heap.size A n (i32s zs)) (hz : ∀ z ∈ zs, -2147483648 ≤ z ∧ z < 2147483648) (hn : n ≤ 1073741824) :
    Calls Tryd.prog 19 #[.slice A n c] w fun e w' => EncPost zs w e w' := by
  have hlen : zs.length = n := by have := hr.1; simpa [i32s] using this
  have HZ := Lib.hid hz
  have HL := Lib.hid hlen
  clear hz hlen
  go_enter Tryd.func19, Tryd.ntmps19
  go_wp2
  go_loopg [4, 9] n (fun g v i wx => ∃ k : Nat, i = .int .i64 k ∧ k ≤ n ∧ n ≤ k + g ∧ Below w.heap.size w wx ∧ wx.ownsRow w.heap.size 5 1 v (byteCells (Cp.encs (zs.take k))).length (byteCells (Cp.encs (zs.take k))) ∧ ∀ z ∈ zs.take k, Cp.valid z = true)
  case atStart =>
    refine ⟨0, rfl, by omega, by omega, Below.refl _ _, ?_, by simp⟩
    exact World.ownsRow_nil _ _ _ _
  case round =>
    obtain ⟨k, rfl, hk, hg, hbw, hown, hval⟩ := hrel
    by_cases hlt : k < n
    · obtain ⟨b, off, u, rfl, hb, hu, hc⟩ := hr.at_ hlt
      obtain ⟨z, hz, rfl⟩ := i32_at hu
      have hcx : wr.cell? ⟨b, off + k, none⟩ = some (.int .i32 z) := (hbw.cell (p := ⟨b, off + k, none⟩) hb).trans hc
      obtain ⟨hz1, hz2⟩ := HZ.out z (List.mem_of_getElem? hz)
      have hi0 : (0 : Int) ≤ k := by omega
      have hin : (k : Int) < n := by omega
      obtain ⟨g, rfl⟩ : ∃ g, gk = g + 1 := ⟨gk - 1, by omega⟩
      have hle := Cp.encs_le (zs.take k)
      have hlc : (byteCells (Cp.encs (zs.take k))).length = (Cp.encs (zs.take k)).length := by simp [byteCells]
      have htk : (zs.take k).length ≤ n := by rw [List.length_take]; omega
      have h47 : (byteCells (Cp.encs (zs.take k))).length + 4 ≤ 140737488355328 := by omega
      clear hu hc hle hlc htk
      cases hv : Cp.valid z with
      | false =>
        have HB := Lib.hid (show ∃ z ∈ zs, Cp.valid z = false from ⟨z, List.mem_of_getElem? hz, hv⟩)
        have VR := Lib.hid (fun W => (show Calls Tryd.prog 28 #[.int .i32 z] W fun e w' => e = .returned (.bool false) ∧ w' = W by rw [← hv]; exact Tryd.utf8_ValidRune z W))
        clear hz hv hval
        go_wp2_with fail
        refine (VR.out _).mono ?_
        rintro e w' ⟨rfl, rfl⟩
        go_wp2_with fail
        go_ret2
        exact ⟨Or.inr ⟨HB.out, rfl⟩, hbw⟩
      | true =>
        have VR := Lib.hid (fun W => (show Calls Tryd.prog 28 #[.int .i32 z] W fun e w' => e = .returned (.bool true) ∧ w' = W by rw [← hv]; exact Tryd.utf8_ValidRune z W))
        have hz' := Lib.hid hz
        have HV := Lib.hid hv
        have HVL := Lib.hid hval
        clear hz hv hval
        go_wp2_with fail
        refine (VR.out _).mono ?_
        rintro e w' ⟨rfl, rfl⟩
        go_wp2_with fail
        refine (Tryd.utf8_AppendRune_plain w.heap.size _ _ _ z (by omega) (by omega) _ hown h47 hbw.size).mono ?_
        rintro e w2 ⟨v', rfl, hown2, o, hgr⟩
        have hb2 : Below w.heap.size w w2 := (hbw.alloc hbw.size o).grown hgr (by have := hbw.size; simp; omega) (fun k hk => (hown.lt k hk).1)
        rw [← byteCells_encodeRune, ← byteCells_append, ← Cp.encs_snoc _ _ _ hz'.out] at hown2
        have HO := Lib.hid hown2
        clear hown2 hgr
        go_wp2_with fail
        go_roundg g
        case measure => omega
        case rel =>
          refine ⟨k + 1, by go_num, by omega, by omega, hb2, ?_, ?_⟩
          · have h := HO.out
            have e1 : (byteCells (Cp.encs (zs.take k))).length + (byteCells (encodeRune z)).length = (byteCells (Cp.encs (zs.take (k + 1)))).length := by
              rw [Cp.encs_snoc _ _ _ hz'.out, byteCells_append, List.length_append]
            rw [← e1]
            exact h
          · intro y hy
            rw [List.take_add_one, hz'.out] at hy
            simp at hy
            rcases hy with hy | rfl
            · exact HVL.out y (by simpa using hy)
            · exact HV.out
    · have hkn : k = n := by omega
      subst hkn
      have hall : zs.take k = zs := List.take_of_length_le (by rw [HL.out]; omega)
      rw [hall] at hown hval
      have hs := own_string _ hown
      have HVL := Lib.hid hval
      have hin : ¬ (k : Int) < k := by omega
      clear hall hval
      go_wp2_with fail
      go_ret2
      exact ⟨Or.inl ⟨HVL.out, rfl⟩, hbw⟩
end Go.Proofs.YtdbbacmnlmkilaaDoor
