/- Round and Text, whatever the string; the examples of the chapter. -/
import Derived.Test.YtmgafnflkfbckaaGreatDoorWalkAF
import Derived.Test.YtmgafnflkfbckaaGreatDoorWalkO
namespace Go.Proofs.YtmgafnflkfbckaaGreatDoor
open Go.RowKit Go.Lib

namespace Dc
/-- A string and an error. -/
def resS (x : D) : List UInt8 := if limit x = 0 then showB x else []
def parseS (l : List UInt8) : List UInt8 × Nat := match numP KP l with
  | none => ([], 3)
  | some x => (resS x, limit x)
def addS (a b : List UInt8) : List UInt8 × Nat := match readP a, readP b with
  | some x, some y => (resS (sumP x y), limit (sumP x y))
  | _, _ => ([], 3)
def mulS (a b : List UInt8) : List UInt8 × Nat := match readP a, readP b with
  | some x, some y => (resS (prodP x y), limit (prodP x y))
  | _, _ => ([], 3)
def roundS (l : List UInt8) (p : Int) : List UInt8 × Nat := match readP l with
  | none => ([], 3)
  | some x => if p < -2000 ∨ 2000 < p then ([], 1) else (resS (roundP x p), limit (roundP x p))
def ofS (l : List UInt8) (e : Int) : List UInt8 × Nat :=
  if intB l = true then (resS (norm (l.head? == some 45) (vals (unsign l)) (clampE e)), limit (norm (l.head? == some 45) (vals (unsign l)) (clampE e))) else ([], 3)
def textS (l : List UInt8) : List UInt8 := match readP l with
  | none => []
  | some x => textB x
end Dc
def val2 (p : List UInt8 × Nat) : Value := .tuple #[.string ⟨p.1.toArray⟩, .int .i64 (p.2 : Int)]
theorem resV_2 (x : Dc.D) : resV x = val2 (Dc.resS x, Dc.limit x) := by
  rw [resV, val2]
  by_cases h : Dc.limit x = 0
  · rw [if_pos h, Dc.resS, if_pos h, h]; rfl
  · rw [if_neg h, Dc.resS, if_neg h]
theorem parse_2 (s : ByteArray) (w : World) (hs : s.size ≤ 1048576) (hL : Laid w) : Calls Tryz.prog 14 #[.string s] w fun x w' => x = .returned (val2 (Dc.parseS s.data.toList)) ∧ Below w.heap.size w w' := by
  refine (parse_any s w hs hL).mono ?_
  rintro x w' ⟨rfl, hb⟩
  refine ⟨?_, hb⟩
  rw [parseV, Dc.parseS]
  cases Dc.numP KP s.data.toList with
  | none => rfl
  | some y => exact congrArg Ending.returned (resV_2 y)
theorem add_2 (s t : ByteArray) (w : World) (hs : s.size ≤ 536870912) (ht : t.size ≤ 536870912) (hL : Laid w) : Calls Tryz.prog 6 #[.string s, .string t] w fun x w' => x = .returned (val2 (Dc.addS s.data.toList t.data.toList)) ∧ Below w.heap.size w w' := by
  refine (add_any s t w hs ht hL).mono ?_
  rintro x w' ⟨rfl, hb⟩
  refine ⟨?_, hb⟩
  rw [addV, Dc.addS]
  cases Dc.readP s.data.toList with
  | none => rfl
  | some y =>
    cases Dc.readP t.data.toList with
    | none => rfl
    | some z => exact congrArg Ending.returned (resV_2 _)
set_option maxHeartbeats 1000000 in
set_option maxRecDepth 100000 in
theorem round_2 (s : ByteArray) (p : Int) (w : World) (hs : s.size ≤ 536870912) (hp : -9223372036854775808 ≤ p ∧ p ≤ 9223372036854775807) (hL : Laid w) :
    Calls Tryz.prog 15 #[.string s, .int .i64 p] w fun x w' => x = .returned (val2 (Dc.roundS s.data.toList p)) ∧ Below w.heap.size w w' := by
  cases hr : Dc.readP s.data.toList with
  | none =>
    have hv : val2 (Dc.roundS s.data.toList p) = .tuple #[.string ⟨#[]⟩, .int .i64 3] := by rw [Dc.roundS, hr]; rfl
    rw [hv]
    have RS := Lib.hid (read_none s w hs hL hr)
    clear hv hr hL
    go_enter Tryz.func15, Tryz.ntmps15
    go_wp2_with fail
    refine (RS.out).mono ?_
    rintro x w7 ⟨⟨g, A, n, e, rfl⟩, hb7⟩
    go_wp2_with fail
    go_ret2
    exact ⟨rfl, hb7.alloc hb7.size _⟩
  | some y =>
    by_cases hpp : p < -2000 ∨ 2000 < p
    · have hv : val2 (Dc.roundS s.data.toList p) = .tuple #[.string ⟨#[]⟩, .int .i64 1] := by rw [Dc.roundS, hr]; simp only [if_pos hpp]; rfl
      rw [hv]
      have RS := Lib.hid (read_some s w hs hL y hr)
      obtain ⟨g, l, e, n, hg, hl, hee, hln, hyy⟩ := num_letters y
      have RS := RS.out
      rw [hl, hg, hee, hln] at RS
      have RS := Lib.hid RS
      clear hv hr hL hg hl hee hln hyy
      by_cases h1 : p < -2000
      · clear hpp
        go_enter Tryz.func15, Tryz.ntmps15
        go_wp2_with fail
        refine (RS.out).mono ?_
        rintro x w7 ⟨A, rfl, _, hb7⟩
        go_wp2_with fail
        go_ret2
        exact ⟨rfl, hb7.alloc hb7.size _⟩
      · have h2 : 2000 < p := hpp.resolve_left h1
        clear hpp
        go_enter Tryz.func15, Tryz.ntmps15
        go_wp2_with fail
        refine (RS.out).mono ?_
        rintro x w7 ⟨A, rfl, _, hb7⟩
        go_wp2_with fail
        go_ret2
        exact ⟨rfl, hb7.alloc hb7.size _⟩
    · have hv : val2 (Dc.roundS s.data.toList p) = resV (Dc.roundP y p) := by rw [Dc.roundS, hr]; simp only [if_neg hpp]; rw [resV_2]
      rw [hv]
      exact round_some s p y w hs hL hr ⟨by omega, by omega⟩

set_option maxHeartbeats 1000000 in
set_option maxRecDepth 100000 in
theorem text_2 (s : ByteArray) (w : World) (hs : s.size ≤ 536870912) (hL : Laid w) :
    Calls Tryz.prog 16 #[.string s] w fun x w' => x = .returned (.string ⟨(Dc.textS s.data.toList).toArray⟩) ∧ Below w.heap.size w w' := by
  cases hr : Dc.readP s.data.toList with
  | none =>
    have hv : Dc.textS s.data.toList = [] := by rw [Dc.textS, hr]
    rw [hv]
    have RS := Lib.hid (read_none s w hs hL hr)
    clear hv hr hL
    go_enter Tryz.func16, Tryz.ntmps16
    go_wp2_with fail
    refine (RS.out).mono ?_
    rintro x w7 ⟨⟨g, A, n, e, rfl⟩, hb7⟩
    go_wp2_with fail
    go_ret
    exact ⟨rfl, hb7.alloc hb7.size _⟩
  | some y =>
    have hv : Dc.textS s.data.toList = Dc.textB y := by rw [Dc.textS, hr]
    rw [hv]
    exact text12_some s y w hs hL hr

theorem canon_lit {x : Dc.D} (h1 : x.c.all (fun d => decide (d < 10)) = true) (h2 : x.c ≠ []) (h3 : x.c.head? ≠ some 0) (h4 : x.c.getLast? ≠ some 0) (h5 : Dc.limit x = 0) : Dc.Canon x :=
  ⟨⟨fun d hd => by simpa using List.all_eq_true.1 h1 d hd, fun h => absurd h h2, fun u hu e => h3 (by rw [hu, e]), fun u hu e => h4 (by rw [hu, e])⟩, h5⟩
theorem ex_read1 : Dc.readP [50, 53, 101, 45, 49] = some ⟨false, [2, 5], -1⟩ := Dc.readP_iff.2 ⟨canon_lit (by decide) (by decide) (by decide) (by decide) (by decide), by simp [Dc.showB, Dc.coefB, Dc.sgnB, Dc.digB, Lib.itoa, Lib.decDigits]⟩
theorem ex_read2 : Dc.readP [49, 53, 101, 45, 49] = some ⟨false, [1, 5], -1⟩ := Dc.readP_iff.2 ⟨canon_lit (by decide) (by decide) (by decide) (by decide) (by decide), by simp [Dc.showB, Dc.coefB, Dc.sgnB, Dc.digB, Lib.itoa, Lib.decDigits]⟩
theorem ex_read3 : Dc.readP [53, 101, 45, 49] = some ⟨false, [5], -1⟩ := Dc.readP_iff.2 ⟨canon_lit (by decide) (by decide) (by decide) (by decide) (by decide), by simp [Dc.showB, Dc.coefB, Dc.sgnB, Dc.digB, Lib.itoa, Lib.decDigits]⟩
theorem ex_read4 : Dc.readP [49, 53, 101, 50, 57] = some ⟨false, [1, 5], 29⟩ := Dc.readP_iff.2 ⟨canon_lit (by decide) (by decide) (by decide) (by decide) (by decide), by simp [Dc.showB, Dc.coefB, Dc.sgnB, Dc.digB, Lib.itoa, Lib.decDigits]⟩
theorem ex_read5 : Dc.readP [49, 101, 49, 56] = some ⟨false, [1], 18⟩ := Dc.readP_iff.2 ⟨canon_lit (by decide) (by decide) (by decide) (by decide) (by decide), by simp [Dc.showB, Dc.coefB, Dc.sgnB, Dc.digB, Lib.itoa, Lib.decDigits]⟩
theorem ex_parse : Dc.parseS [45, 49, 46, 53, 48] = ([45, 49, 53, 101, 45, 49], 0) := by
  have h := Dc.numP_build (K := KP) (g := true) (I := [49]) (F := [53, 48]) (X := none) rfl rfl (by simp) (by simp) (fun n e => by cases e)
  have e1 : Dc.sgnB true ++ ([49] ++ (Dc.fracB [53, 48] ++ Dc.expB none)) = [45, 49, 46, 53, 48] := rfl
  have e2 : Dc.norm true (Dc.vals [49] ++ Dc.vals [53, 48]) (-(([53, 48] : List UInt8).length : Int) + Dc.expV none) = ⟨true, [1, 5], -1⟩ := by decide
  rw [e1, e2] at h
  rw [Dc.parseS, h]
  have e3 : Dc.limit ⟨true, [1, 5], -1⟩ = 0 := by decide
  simp only [Dc.resS, e3, if_true]
  simp [Dc.showB, Dc.coefB, Dc.sgnB, Dc.digB, Lib.itoa, Lib.decDigits]
theorem show_two : Dc.showB ⟨false, [2], 0⟩ = [50, 101, 48] := by simp [Dc.showB, Dc.coefB, Dc.sgnB, Dc.digB, Lib.itoa, Lib.decDigits]
theorem ex_round : Dc.roundS [50, 53, 101, 45, 49] 0 = ([50, 101, 48], 0) := by
  have e3 : Dc.limit ⟨false, [2], 0⟩ = 0 := by decide
  rw [Dc.roundS, ex_read1]
  simp only
  rw [if_neg (by decide), Dc.ex_round, Dc.resS, if_pos e3, show_two, e3]
theorem ex_add : Dc.addS [49, 53, 101, 45, 49] [53, 101, 45, 49] = ([50, 101, 48], 0) := by
  have e3 : Dc.limit ⟨false, [2], 0⟩ = 0 := by decide
  have e4 : Dc.sumP ⟨false, [1, 5], -1⟩ ⟨false, [5], -1⟩ = ⟨false, [2], 0⟩ := by decide
  rw [Dc.addS, ex_read2, ex_read3]
  simp only
  rw [e4, Dc.resS, if_pos e3, show_two, e3]
theorem ex_text1 : Dc.textS [49, 53, 101, 50, 57] = [49, 46, 53, 101, 51, 48] := by rw [Dc.textS, ex_read4]; exact Dc.ex_text
theorem ex_text2 : Dc.textS [49, 101, 49, 56] = [49, 48, 48, 48, 48, 48, 48, 48, 48, 48, 48, 48, 48, 48, 48, 48, 48, 48, 48, 46, 48] := by
  rw [Dc.textS, ex_read5]
  simp [Dc.textB, Dc.sgnB, Dc.digB, List.replicate]

set_option maxHeartbeats 1000000 in
set_option maxRecDepth 100000 in
theorem awake_any (w : World) (hL : Laid w) : Calls Tryz.prog 4 #[] w fun x w' => x = .returned (.bool true) ∧ Below w.heap.size w w' := by
  have PA : ∀ W, Laid W → Calls Tryz.prog 14 #[.string ⟨#[45, 49, 46, 53, 48]⟩] W fun x w' => x = .returned (.tuple #[.string ⟨#[45, 49, 53, 101, 45, 49]⟩, .int .i64 0]) ∧ Below W.heap.size W w' := by
    intro W hW
    have := parse_2 ⟨#[45, 49, 46, 53, 48]⟩ W (by decide) hW
    rw [ex_parse] at this
    exact this
  have RO : ∀ W, Laid W → Calls Tryz.prog 15 #[.string ⟨#[50, 53, 101, 45, 49]⟩, .int .i64 0] W fun x w' => x = .returned (.tuple #[.string ⟨#[50, 101, 48]⟩, .int .i64 0]) ∧ Below W.heap.size W w' := by
    intro W hW
    have := round_2 ⟨#[50, 53, 101, 45, 49]⟩ 0 W (by decide) (by omega) hW
    rw [ex_round] at this
    exact this
  have AD : ∀ W, Laid W → Calls Tryz.prog 6 #[.string ⟨#[49, 53, 101, 45, 49]⟩, .string ⟨#[53, 101, 45, 49]⟩] W fun x w' => x = .returned (.tuple #[.string ⟨#[50, 101, 48]⟩, .int .i64 0]) ∧ Below W.heap.size W w' := by
    intro W hW
    have := add_2 ⟨#[49, 53, 101, 45, 49]⟩ ⟨#[53, 101, 45, 49]⟩ W (by decide) (by decide) hW
    rw [ex_add] at this
    exact this
  have T1 : ∀ W, Laid W → Calls Tryz.prog 16 #[.string ⟨#[49, 53, 101, 50, 57]⟩] W fun x w' => x = .returned (.string ⟨#[49, 46, 53, 101, 51, 48]⟩) ∧ Below W.heap.size W w' := by
    intro W hW
    have := text_2 ⟨#[49, 53, 101, 50, 57]⟩ W (by decide) hW
    rw [ex_text1] at this
    exact this
  have T2 : ∀ W, Laid W → Calls Tryz.prog 16 #[.string ⟨#[49, 101, 49, 56]⟩] W fun x w' => x = .returned (.string ⟨#[49, 48, 48, 48, 48, 48, 48, 48, 48, 48, 48, 48, 48, 48, 48, 48, 48, 48, 48, 46, 48]⟩) ∧ Below W.heap.size W w' := by
    intro W hW
    have := text_2 ⟨#[49, 101, 49, 56]⟩ W (by decide) hW
    rw [ex_text2] at this
    exact this
  have PA := Lib.hid PA
  have RO := Lib.hid RO
  have AD := Lib.hid AD
  have T1 := Lib.hid T1
  have T2 := Lib.hid T2
  have HL := Lib.hid hL
  clear hL
  go_enter Tryz.func4, Tryz.ntmps4
  go_wp2_with fail
  refine (PA.out _ HL.out).mono ?_
  rintro x w1 ⟨rfl, hb1⟩
  go_wp2_with fail
  refine (RO.out _ (HL.out.on hb1)).mono ?_
  rintro x w2 ⟨rfl, hb2⟩
  have hb12 := hb1.trans (hb2.mono hb1.size)
  go_wp2_with fail
  refine (AD.out _ (HL.out.on hb12)).mono ?_
  rintro x w3 ⟨rfl, hb3⟩
  have hb13 := hb12.trans (hb3.mono hb12.size)
  go_wp2_with fail
  refine (T1.out _ (HL.out.on hb13)).mono ?_
  rintro x w4 ⟨rfl, hb4⟩
  have hb14 := hb13.trans (hb4.mono hb13.size)
  go_wp2_with fail
  refine (T2.out _ (HL.out.on hb14)).mono ?_
  rintro x w5 ⟨rfl, hb5⟩
  go_wp2_with fail
  go_ret
  exact ⟨rfl, hb14.trans (hb5.mono hb14.size)⟩
end Go.Proofs.YtmgafnflkfbckaaGreatDoor
