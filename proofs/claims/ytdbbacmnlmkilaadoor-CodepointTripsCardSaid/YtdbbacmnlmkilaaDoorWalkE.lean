/- The contracts of the reference's 'begins', 'At' and 'Decode'. -/
import Derived.Test.YtdbbacmnlmkilaaDoorWalkD2
import Derived.Test.YtdbbacmnlmkilaaDoorWalkD3
import Derived.Test.YtdbbacmnlmkilaaDoorWalkD4
import Derived.Laws.IdiomStrings
namespace Go.Proofs.YtdbbacmnlmkilaaDoor
open Go.RowKit Go.Lib

/-- 'begins', at every slice of one to four bytes. -/
theorem begins_any (l : List UInt8) (b off cap : Nat) (w : World) (hr : ∀ j d, l[j]? = some d → w.cell? ⟨b, off + j, none⟩ = some (.int .u8 (UInt8.toNat d : Int))) (h1 : 1 ≤ l.length) (h4 : l.length ≤ 4) :
    Calls Tryd.prog 27 #[.slice (some ⟨b, off, none⟩) l.length cap] w fun e w' => e = .returned (.tuple #[.int .i64 ((Cp.begins l).1 : Int), .int .i64 ((Cp.begins l).2 : Int)]) ∧ w = w' := by
  cases l with
  | nil => simp at h1
  | cons c t =>
    have hc := c.toNat_lt
    have c0 : w.cell? ⟨b, off, none⟩ = some (.int .u8 (c.toNat : Int)) := hr 0 c rfl
    have hr' : ∀ j d, t[j]? = some d → w.cell? ⟨b, off + (j + 1), none⟩ = some (.int .u8 (UInt8.toNat d : Int)) := fun j d hd => hr (j + 1) d (by simpa using hd)
    have zero : Cp.begins (c :: t) = (0, 0) → (c.toNat < 128 ∧ 2 ≤ (c :: t).length ∨ 128 ≤ c.toNat ∧ c.toNat < 192 ∨ 248 ≤ c.toNat ∨ 192 ≤ c.toNat ∧ c.toNat < 224 ∧ 2 < (c :: t).length ∨ 224 ≤ c.toNat ∧ c.toNat < 240 ∧ 3 < (c :: t).length) →
        Calls Tryd.prog 27 #[.slice (some ⟨b, off, none⟩) (c :: t).length cap] w fun e w' => e = .returned (.tuple #[.int .i64 ((Cp.begins (c :: t)).1 : Int), .int .i64 ((Cp.begins (c :: t)).2 : Int)]) ∧ w = w' := fun hz hs =>
      (begins_w0 c.toNat (c :: t).length b off cap w c0 hc h4 hs h1).mono fun e w' ⟨he, hw⟩ => ⟨by rw [hz]; exact he, hw.symm⟩
    by_cases ha : c.toNat < 128
    · by_cases ht : t = []
      · subst ht
        refine (begins_w1 c.toNat b off cap w c0 ha).mono fun e w' ⟨he, hw⟩ => ⟨?_, hw.symm⟩
        rw [Cp.begins_ascii ha]; exact he
      · have hl := List.length_pos_iff.2 ht
        exact zero (Cp.begins_ascii_more ha ht) (.inl ⟨ha, by simp; omega⟩)
    · rcases Cp.wid_cases c.toNat with ⟨hw, h⟩ | ⟨hw, h⟩ | ⟨hw, h⟩ | ⟨hw, h⟩
      · exact zero (Cp.begins_long (by omega) (.inl (by omega))) (by omega)
      · by_cases hn : (c :: t).length ≤ 2
        · obtain ⟨p, q, r⟩ := Cp.cls2 h
          refine (begins_w2 c.toNat (c.toNat - 192) t b off cap w c0 hr' h.1 h.2 (by omega) (by omega) _ rfl hn).mono fun e w' ⟨he, hw'⟩ => ⟨?_, hw'⟩
          rw [Cp.begins_bres (by omega) (by rw [hw]; exact hn), hw, p, q, r]; exact he
        · simp only [List.length_cons] at hn
          exact zero (Cp.begins_long (by omega) (.inl (by omega))) (by simp only [List.length_cons]; omega)
      · by_cases hn : (c :: t).length ≤ 3
        · obtain ⟨p, q, r⟩ := Cp.cls3 h
          refine (begins_w3 c.toNat (c.toNat - 224) t b off cap w c0 hr' h.1 h.2 (by omega) (by omega) _ rfl hn).mono fun e w' ⟨he, hw'⟩ => ⟨?_, hw'⟩
          rw [Cp.begins_bres (by omega) (by rw [hw]; exact hn), hw, p, q, r]; exact he
        · simp only [List.length_cons] at hn
          exact zero (Cp.begins_long (by omega) (.inl (by omega))) (by simp only [List.length_cons]; omega)
      · obtain ⟨p, q, r⟩ := Cp.cls4 h
        refine (begins_w4 c.toNat (c.toNat - 240) t b off cap w c0 hr' h.1 h.2 (by omega) (by omega) _ rfl h4).mono fun e w' ⟨he, hw'⟩ => ⟨?_, hw'⟩
        rw [Cp.begins_bres (by omega) (by rw [hw]; exact h4), hw, p, q, r]; exact he
end Go.Proofs.YtdbbacmnlmkilaaDoor
