/- The contracts of codepoint.Encode, and of the reference's Scalar and Encode. -/
import Derived.Test.YtdbbacmnlmkilaaDoorWalkK
import Derived.Test.YtdbbacmnlmkilaaDoorPlain3
import Derived.Laws.IdiomStrings
import Derived.IntWalk
import Derived.Deep.DeepCutAuto
import Derived.WideShapes
namespace Go.Proofs.YtdbbacmnlmkilaaDoor
open Go.RowKit Go.Lib
open Go.WideShapes (add_plain)

/-- 'string(b)' of a slice that reads as bytes. -/
theorem reads_string {w : World} {B : Nat} {A : Option Addr} {n c : Nat} (l : List UInt8) (h : Reads w B A n (byteCells l)) : (convert 54 9 (.slice A n c)).run Tryd.prog w = .ok (.string ⟨l.toArray⟩) w := by
  have hlen : l.length = n := by have := h.1; simpa [byteCells] using this
  cases A with
  | none =>
    have hn : n = 0 := by
      rcases Nat.eq_zero_or_pos n with h0 | h0
      · exact h0
      · obtain ⟨b, off, e, _⟩ := h.2 h0; cases e
    subst hn
    have hl : l = [] := List.length_eq_zero_iff.1 hlen
    subst hl
    rw [run_convert_bytes_string w 54 9 5 none 0 c Tryd.underlying54 Tryd.underlying5 Tryd.underlying9]
    simp [Conv.bytesToString, Sem.run_pure]
    rfl
  | some a =>
    have := run_convert_bytes_back (P := Tryd.prog) w 54 9 5 a c l Tryd.underlying54 Tryd.underlying5 Tryd.underlying9 (fun j hj => by
      obtain ⟨b, off, e, _, hc⟩ := h.2 (by omega)
      obtain rfl := Option.some.inj e
      rw [add_plain]
      exact hc j _ (by simp [byteCells, hj]))
    rw [hlen] at this
    exact this
theorem own_string {w : World} {base : Nat} {v : Value} {n : Nat} (l : List UInt8) (h : w.ownsRow base 5 1 v n (byteCells l)) : (convert 54 9 v).run Tryd.prog w = .ok (.string ⟨l.toArray⟩) w := by
  obtain ⟨A, c, rfl⟩ := own_form h
  exact reads_string l (Reads.of_own h)

theorem row_string (l : List UInt8) (cs : Array Value) (n : Nat) (hcs : cs = (byteCells l).toArray) (hn : l.length = n) (w : World) : (convert 54 9 (.slice (some ⟨w.heap.size, 0, none⟩) n n)).run Tryd.prog (w.alloc (.cells cs 5)) = .ok (.string ⟨l.toArray⟩) (w.alloc (.cells cs 5)) := by
  subst hn
  refine run_convert_bytes_back (P := Tryd.prog) _ 54 9 5 ⟨w.heap.size, 0, none⟩ l.length l Tryd.underlying54 Tryd.underlying5 Tryd.underlying9 fun j hj => ?_
  rw [add_plain, Nat.zero_add]
  exact at_block (heap_alloc_new w _) j _ (by rw [hcs]; simp [byteCells, hj])

set_option maxHeartbeats 1000000 in
set_option maxRecDepth 100000 in
theorem scalar_any (r : Int) (w : World) : Calls Tryd.prog 20 #[.int .i32 r] w fun e w' => e = .returned (.bool (Cp.valid r)) ∧ w' = w := by
  by_cases h0 : 0 ≤ r
  · by_cases h1 : r ≤ 1114111
    · by_cases h2 : r < 55296
      · have hv : Cp.valid r = true := (Cp.valid_iff r).2 (by omega)
        rw [hv]
        clear hv
        go_enter Tryd.func20, Tryd.ntmps20
        go_wp2
        go_ret
        exact ⟨rfl, rfl⟩
      · by_cases h3 : 57343 < r
        · have hv : Cp.valid r = true := (Cp.valid_iff r).2 (by omega)
          rw [hv]
          clear hv
          go_enter Tryd.func20, Tryd.ntmps20
          go_wp2
          go_ret
          exact ⟨rfl, rfl⟩
        · have hv : Cp.valid r = false := by rw [← Bool.not_eq_true, Cp.valid_iff]; omega
          rw [hv]
          clear hv
          go_enter Tryd.func20, Tryd.ntmps20
          go_wp2
          go_ret
          exact ⟨rfl, rfl⟩
    · have hv : Cp.valid r = false := by rw [← Bool.not_eq_true, Cp.valid_iff]; omega
      rw [hv]
      clear hv
      go_enter Tryd.func20, Tryd.ntmps20
      go_wp2
      go_ret
      exact ⟨rfl, rfl⟩
  · have hv : Cp.valid r = false := by rw [← Bool.not_eq_true, Cp.valid_iff]; omega
    rw [hv]
    clear hv
    go_enter Tryd.func20, Tryd.ntmps20
    go_wp2
    go_ret
    exact ⟨rfl, rfl⟩

set_option maxHeartbeats 1000000 in
set_option maxRecDepth 100000 in
theorem refenc_any (a : Nat) (h : a ≤ 1114111) (w : World) : Calls Tryd.prog 21 #[.int .i32 (a : Int)] w fun e w' => e = .returned (.string ⟨(Cp.encN a).toArray⟩) ∧ Below w.heap.size w w' := by
  by_cases h1 : a < 128
  · have e : #[.int .u8 (a : Int)] = (byteCells (Cp.encN a)).toArray := by
      simp only [Cp.encN, if_pos h1, byteCells, List.map_cons, List.map_nil]
      rw [Cp.toU8 _ (by omega)]
      try simp
    have hl : (Cp.encN a).length = 1 := by simp only [Cp.encN, if_pos h1]; rfl
    have cv := row_string (Cp.encN a) #[.int .u8 (a : Int)] 1 e hl w
    obtain ⟨S, hS⟩ : ∃ S : ByteArray, (⟨(Cp.encN a).toArray⟩ : ByteArray) = S := ⟨_, rfl⟩
    rw [hS] at cv ⊢
    clear hS
    have g0 : (0 : Int) ≤ a := by omega
    have g9 : (a : Int) ≤ 1114111 := by omega
    have gh1 : (a : Int) < 128 := by omega
    clear e hl h  h1
    generalize (a : Int) = r at *
    go_enter Tryd.func21, Tryd.ntmps21
    go_wp2
    go_ret
    exact ⟨rfl, (Below.refl _ _).alloc (Nat.le_refl _) _⟩
  · have _k := Nat.le_refl 0
    by_cases h2 : a < 2048
    · have e : #[.int .u8 (192 + (a : Int) / 64), .int .u8 (128 + (a : Int) % 64)] = (byteCells (Cp.encN a)).toArray := by
        simp only [Cp.encN, if_neg h1, if_pos h2, byteCells, List.map_cons, List.map_nil]
        rw [Cp.toU8 _ (by omega), Cp.toU8 _ (by omega)]
        try simp
      have hl : (Cp.encN a).length = 2 := by simp only [Cp.encN, if_neg h1, if_pos h2]; rfl
      have cv := row_string (Cp.encN a) #[.int .u8 (192 + (a : Int) / 64), .int .u8 (128 + (a : Int) % 64)] 2 e hl w
      obtain ⟨S, hS⟩ : ∃ S : ByteArray, (⟨(Cp.encN a).toArray⟩ : ByteArray) = S := ⟨_, rfl⟩
      rw [hS] at cv ⊢
      clear hS
      have g0 : (0 : Int) ≤ a := by omega
      have g9 : (a : Int) ≤ 1114111 := by omega
      have gh1 : ¬ (a : Int) < 128 := by omega
      have gh2 : (a : Int) < 2048 := by omega
      clear e hl h h1 h2
      generalize (a : Int) = r at *
      go_enter Tryd.func21, Tryd.ntmps21
      go_wp2
      go_ret
      exact ⟨rfl, (Below.refl _ _).alloc (Nat.le_refl _) _⟩
    · have _k := Nat.le_refl 0
      by_cases h3 : a < 65536
      · have e : #[.int .u8 (224 + (a : Int) / 4096), .int .u8 (128 + (a : Int) / 64 % 64), .int .u8 (128 + (a : Int) % 64)] = (byteCells (Cp.encN a)).toArray := by
          simp only [Cp.encN, if_neg h1, if_neg h2, if_pos h3, byteCells, List.map_cons, List.map_nil]
          rw [Cp.toU8 _ (by omega), Cp.toU8 _ (by omega), Cp.toU8 _ (by omega)]
          try simp
        have hl : (Cp.encN a).length = 3 := by simp only [Cp.encN, if_neg h1, if_neg h2, if_pos h3]; rfl
        have cv := row_string (Cp.encN a) #[.int .u8 (224 + (a : Int) / 4096), .int .u8 (128 + (a : Int) / 64 % 64), .int .u8 (128 + (a : Int) % 64)] 3 e hl w
        obtain ⟨S, hS⟩ : ∃ S : ByteArray, (⟨(Cp.encN a).toArray⟩ : ByteArray) = S := ⟨_, rfl⟩
        rw [hS] at cv ⊢
        clear hS
        have g0 : (0 : Int) ≤ a := by omega
        have g9 : (a : Int) ≤ 1114111 := by omega
        have gh1 : ¬ (a : Int) < 128 := by omega
        have gh2 : ¬ (a : Int) < 2048 := by omega
        have gh3 : (a : Int) < 65536 := by omega
        clear e hl h h1 h2 h3
        generalize (a : Int) = r at *
        go_enter Tryd.func21, Tryd.ntmps21
        go_wp2
        go_ret
        exact ⟨rfl, (Below.refl _ _).alloc (Nat.le_refl _) _⟩
      · have _k := Nat.le_refl 0
        have e : #[.int .u8 (240 + (a : Int) / 262144), .int .u8 (128 + (a : Int) / 4096 % 64), .int .u8 (128 + (a : Int) / 64 % 64), .int .u8 (128 + (a : Int) % 64)] = (byteCells (Cp.encN a)).toArray := by
          simp only [Cp.encN, if_neg h1, if_neg h2, if_neg h3, byteCells, List.map_cons, List.map_nil]
          rw [Cp.toU8 _ (by omega), Cp.toU8 _ (by omega), Cp.toU8 _ (by omega), Cp.toU8 _ (by omega)]
          try simp
        have hl : (Cp.encN a).length = 4 := by simp only [Cp.encN, if_neg h1, if_neg h2, if_neg h3]; rfl
        have cv := row_string (Cp.encN a) #[.int .u8 (240 + (a : Int) / 262144), .int .u8 (128 + (a : Int) / 4096 % 64), .int .u8 (128 + (a : Int) / 64 % 64), .int .u8 (128 + (a : Int) % 64)] 4 e hl w
        obtain ⟨S, hS⟩ : ∃ S : ByteArray, (⟨(Cp.encN a).toArray⟩ : ByteArray) = S := ⟨_, rfl⟩
        rw [hS] at cv ⊢
        clear hS
        have g0 : (0 : Int) ≤ a := by omega
        have g9 : (a : Int) ≤ 1114111 := by omega
        have gh1 : ¬ (a : Int) < 128 := by omega
        have gh2 : ¬ (a : Int) < 2048 := by omega
        have gh3 : ¬ (a : Int) < 65536 := by omega
        clear e hl h h1 h2 h3
        generalize (a : Int) = r at *
        go_enter Tryd.func21, Tryd.ntmps21
        go_wp2
        go_ret
        exact ⟨rfl, (Below.refl _ _).alloc (Nat.le_refl _) _⟩
end Go.Proofs.YtdbbacmnlmkilaaDoor
