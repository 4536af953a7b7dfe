/- parse at every canonical text. -/
import Derived.Test.YtjapgpmoojfhnaaGreatDoorWalkG
namespace Go.Proofs.YtjapgpmoojfhnaaGreatDoor
open Go.RowKit Go.Lib

/-- The word that a canonical text is read as. -/
def Fl.canonW (b : Nat) : Nat := if 9218868437227405312 < b % 9223372036854775808 then 9221120237041090561 else b
set_option maxHeartbeats 1000000 in
set_option maxRecDepth 100000 in
theorem parse_zero (b : Nat) (hb : b < 18446744073709551616) (w : World) (h0 : b % 9223372036854775808 = 0) :
    Calls Tryz.prog 58 #[.string ⟨(Fl.txt b).toArray⟩] w fun x w' => x = .returned (.tuple #[.float .f64 b, .bool true]) ∧ Below w.heap.size w w' := by
  have ht : Fl.txt b = Fl.sgB b ++ [48, 112, 48] := by rw [Fl.txt, h0]; rfl
  obtain ⟨p1, p2⟩ := pre_txt (b := b) (X := [48, 112, 48]) (by decide)
  obtain ⟨S, hS⟩ : ∃ S : ByteArray, ⟨(Fl.txt b).toArray⟩ = S := ⟨_, rfl⟩
  obtain ⟨sb, hsb⟩ : ∃ sb, decide (9223372036854775808 ≤ b) = sb := ⟨_, rfl⟩
  have CP : ∀ W, Calls Tryz.prog 102 #[.string S, .string ⟨#[45]⟩] W fun e w' => e = .returned (.tuple #[.string ⟨#[48, 112, 48]⟩, .bool sb]) ∧ w' = W := fun W => by
    have h := Tryz.strings_CutPrefix S ⟨#[45]⟩ W
    have e1 : S.data.toList = Fl.sgB b ++ [48, 112, 48] := by rw [← hS, ← ht]
    rw [e1, show (⟨#[45]⟩ : ByteArray).data.toList = [45] from rfl, p1, p2, hsb] at h
    exact h
  have n1 : (S.toList == [110, 97, 110]) = false := by
    rw [← hS, ht]
    refine ba_list (m := [110, 97, 110]) ?_
    unfold Fl.sgB
    split <;> decide
  have CS := fun W => copysign_any 0 13830554455654793216 W (by omega) (by decide)
  have hbs : (sb = true → 9223372036854775808 = b) ∧ (sb = false → 0 = b) := by
    rw [← hsb]
    refine ⟨fun h => ?_, fun h => ?_⟩
    · have := of_decide_eq_true h; omega
    · have := of_decide_eq_false h; omega
  have CP := Lib.hid CP
  have CS := Lib.hid CS
  have HBS := Lib.hid hbs
  rw [hS]
  clear hS hbs p1 p2 ht h0 hsb hb
  go_enter Tryz.func58, Tryz.ntmps58
  go_wp2_with fail
  refine (CP.out _).mono ?_
  rintro x w1 ⟨rfl, rfl⟩
  cases sb with
  | true =>
    have E := Lib.hid (HBS.out.1 rfl)
    go_wp2_with fail
    refine (CS.out _).mono ?_
    rintro x w8 ⟨rfl, rfl⟩
    go_wp2_with fail
    go_ret2
    exact ⟨by rw [← E.out]; rfl, Below.refl _ _⟩
  | false =>
    have E := Lib.hid (HBS.out.2 rfl)
    go_wp2_with fail
    go_ret2
    exact ⟨by rw [← E.out]; rfl, Below.refl _ _⟩
set_option maxHeartbeats 1000000 in
set_option maxRecDepth 100000 in
theorem parse_inf (b : Nat) (hb : b < 18446744073709551616) (w : World) (h0 : b % 9223372036854775808 = 9218868437227405312) :
    Calls Tryz.prog 58 #[.string ⟨(Fl.txt b).toArray⟩] w fun x w' => x = .returned (.tuple #[.float .f64 b, .bool true]) ∧ Below w.heap.size w w' := by
  have ht : Fl.txt b = Fl.sgB b ++ [105, 110, 102] := by rw [Fl.txt, h0]; rfl
  obtain ⟨p1, p2⟩ := pre_txt (b := b) (X := [105, 110, 102]) (by decide)
  obtain ⟨S, hS⟩ : ∃ S : ByteArray, ⟨(Fl.txt b).toArray⟩ = S := ⟨_, rfl⟩
  obtain ⟨sb, hsb⟩ : ∃ sb, decide (9223372036854775808 ≤ b) = sb := ⟨_, rfl⟩
  have CP : ∀ W, Calls Tryz.prog 102 #[.string S, .string ⟨#[45]⟩] W fun e w' => e = .returned (.tuple #[.string ⟨#[105, 110, 102]⟩, .bool sb]) ∧ w' = W := fun W => by
    have h := Tryz.strings_CutPrefix S ⟨#[45]⟩ W
    have e1 : S.data.toList = Fl.sgB b ++ [105, 110, 102] := by rw [← hS, ← ht]
    rw [e1, show (⟨#[45]⟩ : ByteArray).data.toList = [45] from rfl, p1, p2, hsb] at h
    exact h
  have n1 : (S.toList == [110, 97, 110]) = false := by
    rw [← hS, ht]
    refine ba_list (m := [110, 97, 110]) ?_
    unfold Fl.sgB
    split <;> decide
  have IN := fun W => inf_any 1 W (by decide)
  have CS := fun W => copysign_any 9218868437227405312 13830554455654793216 W (by omega) (by decide)
  have hbs : (sb = true → 18442240474082181120 = b) ∧ (sb = false → 9218868437227405312 = b) := by
    rw [← hsb]
    refine ⟨fun h => ?_, fun h => ?_⟩
    · have := of_decide_eq_true h; omega
    · have := of_decide_eq_false h; omega
  have CP := Lib.hid CP
  have CS := Lib.hid CS
  have IN := Lib.hid IN
  have HBS := Lib.hid hbs
  rw [hS]
  clear hS hbs p1 p2 ht h0 hsb hb
  go_enter Tryz.func58, Tryz.ntmps58
  go_wp2_with fail
  refine (CP.out _).mono ?_
  rintro x w1 ⟨rfl, rfl⟩
  go_wp2_with fail
  refine (IN.out _).mono ?_
  rintro x w2 ⟨rfl, rfl⟩
  cases sb with
  | true =>
    have E := Lib.hid (HBS.out.1 rfl)
    go_wp2_with fail
    refine (CS.out _).mono ?_
    rintro x w8 ⟨rfl, rfl⟩
    go_wp2_with fail
    go_ret2
    exact ⟨by rw [← E.out]; rfl, Below.refl _ _⟩
  | false =>
    have E := Lib.hid (HBS.out.2 rfl)
    go_wp2_with fail
    go_ret2
    exact ⟨by rw [← E.out]; rfl, Below.refl _ _⟩
set_option maxHeartbeats 1000000 in
set_option maxRecDepth 100000 in
theorem parse_nan (w : World) : Calls Tryz.prog 58 #[.string ⟨#[110, 97, 110]⟩] w fun x w' => x = .returned (.tuple #[.float .f64 9221120237041090561, .bool true]) ∧ Below w.heap.size w w' := by
  have CP : ∀ W, ∃ T g, Calls Tryz.prog 102 #[.string ⟨#[110, 97, 110]⟩, .string ⟨#[45]⟩] W fun e w' => e = .returned (.tuple #[.string T, .bool g]) ∧ w' = W := fun W => ⟨_, _, Tryz.strings_CutPrefix ⟨#[110, 97, 110]⟩ ⟨#[45]⟩ W⟩
  obtain ⟨T, g, hCP⟩ := CP w
  have CP := Lib.hid hCP
  have NN := Lib.hid (fun W => nan_any W)
  clear hCP
  go_enter Tryz.func58, Tryz.ntmps58
  go_wp2_with fail
  refine (CP.out).mono ?_
  rintro x w1 ⟨rfl, rfl⟩
  go_wp2_with fail
  refine (NN.out _).mono ?_
  rintro x w2 ⟨rfl, rfl⟩
  go_wp2_with fail
  go_ret2
  exact ⟨rfl, Below.refl _ _⟩
/-- parse at every canonical text. -/
theorem parse_txt (b : Nat) (hb : b < 18446744073709551616) (w : World) (hL : Laid w) :
    Calls Tryz.prog 58 #[.string ⟨(Fl.txt b).toArray⟩] w fun x w' => x = .returned (.tuple #[.float .f64 (Fl.canonW b), .bool true]) ∧ Below w.heap.size w w' := by
  rcases Nat.lt_trichotomy (b % 9223372036854775808) 9218868437227405312 with h | h | h
  · rw [show Fl.canonW b = b from if_neg (by omega)]
    by_cases h0 : b % 9223372036854775808 = 0
    · exact parse_zero b hb w h0
    · exact parse_num b hb w (by omega) h hL
  · rw [show Fl.canonW b = b from if_neg (by omega)]
    exact parse_inf b hb w h
  · rw [show Fl.canonW b = 9221120237041090561 from if_pos h, show Fl.txt b = [110, 97, 110] from if_pos h]
    exact parse_nan w
end Go.Proofs.YtjapgpmoojfhnaaGreatDoor
