/- What the functions answer at strings that are no canonical texts; Parts at those that are. -/
import Derived.Test.YtjapgpmoojfhnaaGreatDoorWalkZL
namespace Go.Proofs.YtjapgpmoojfhnaaGreatDoor
open Go.RowKit Go.Lib

set_option maxHeartbeats 1000000 in
set_option maxRecDepth 100000 in
theorem finite_bad (s : ByteArray) (PB : ∀ W, Laid W → Calls Tryz.prog 58 #[.string s] W fun x w' => x = .returned (.tuple #[.float .f64 0, .bool false]) ∧ Below W.heap.size W w') (w : World) (hL : Laid w) : Calls Tryz.prog 46 #[.string s] w fun x w' => x = .returned (.tuple #[.float .f64 0, .int .i64 3]) ∧ Below w.heap.size w w' := by
  have PB := Lib.hid PB
  have HL := Lib.hid hL
  clear hL
  go_enter Tryz.func46, Tryz.ntmps46
  go_wp2_with fail
  refine (PB.out _ HL.out).mono ?_
  rintro x w1 ⟨rfl, hb1⟩
  go_wp2_with fail
  go_ret2
  exact ⟨rfl, hb1⟩
set_option maxHeartbeats 1000000 in
set_option maxRecDepth 100000 in
theorem parts_bad (s : ByteArray) (PB : ∀ W, Laid W → Calls Tryz.prog 58 #[.string s] W fun x w' => x = .returned (.tuple #[.float .f64 0, .bool false]) ∧ Below W.heap.size W w') (w : World) (hL : Laid w) : Calls Tryz.prog 35 #[.string s] w fun x w' => x = .returned (.tuple #[.string ⟨#[]⟩, .int .i64 0, .int .i64 3]) ∧ Below w.heap.size w w' := by
  have FB := Lib.hid (fun W hW => finite_bad s PB W hW)
  have HL := Lib.hid hL
  clear hL PB
  go_enter Tryz.func35, Tryz.ntmps35
  go_wp2_with fail
  refine (FB.out _ HL.out).mono ?_
  rintro x w1 ⟨rfl, hb1⟩
  go_wp2_with fail
  refine bodyPost_ret (v := .tuple #[.string ⟨#[]⟩, .int .i64 0, .int .i64 3]) (by simp [results, Tryz.results35, go_sem]) rfl ?_
  exact ⟨rfl, hb1⟩
set_option maxHeartbeats 1000000 in
set_option maxRecDepth 100000 in
theorem decimal_bad (s : ByteArray) (PB : ∀ W, Laid W → Calls Tryz.prog 58 #[.string s] W fun x w' => x = .returned (.tuple #[.float .f64 0, .bool false]) ∧ Below W.heap.size W w') (w : World) (hL : Laid w) : Calls Tryz.prog 14 #[.string s] w fun x w' => x = .returned (.tuple #[.string ⟨#[]⟩, .int .i64 3]) ∧ Below w.heap.size w w' := by
  have FB := Lib.hid (fun W hW => finite_bad s PB W hW)
  have HL := Lib.hid hL
  clear hL PB
  go_enter Tryz.func14, Tryz.ntmps14
  go_wp2_with fail
  refine (FB.out _ HL.out).mono ?_
  rintro x w1 ⟨rfl, hb1⟩
  go_wp2_with fail
  go_ret2
  exact ⟨rfl, hb1⟩
set_option maxHeartbeats 1000000 in
set_option maxRecDepth 100000 in
theorem shortest_bad (s : ByteArray) (PB : ∀ W, Laid W → Calls Tryz.prog 58 #[.string s] W fun x w' => x = .returned (.tuple #[.float .f64 0, .bool false]) ∧ Below W.heap.size W w') (w : World) (hL : Laid w) : Calls Tryz.prog 36 #[.string s] w fun x w' => x = .returned (.tuple #[.string ⟨#[]⟩, .int .i64 3]) ∧ Below w.heap.size w w' := by
  have FB := Lib.hid (fun W hW => finite_bad s PB W hW)
  have HL := Lib.hid hL
  clear hL PB
  go_enter Tryz.func36, Tryz.ntmps36
  go_wp2_with fail
  refine (FB.out _ HL.out).mono ?_
  rintro x w1 ⟨rfl, hb1⟩
  go_wp2_with fail
  go_ret2
  exact ⟨rfl, hb1⟩
set_option maxHeartbeats 1000000 in
set_option maxRecDepth 100000 in
theorem bits_bad (s : ByteArray) (PB : ∀ W, Laid W → Calls Tryz.prog 58 #[.string s] W fun x w' => x = .returned (.tuple #[.float .f64 0, .bool false]) ∧ Below W.heap.size W w') (w : World) (hL : Laid w) (n : Int) : Calls Tryz.prog 27 #[.string s, .int .i64 n] w fun x w' => x = .returned (.tuple #[.int .u64 0, .bool false, .int .i64 3]) ∧ Below w.heap.size w w' := by
  have PB := Lib.hid PB
  have HL := Lib.hid hL
  clear hL
  go_enter Tryz.func27, Tryz.ntmps27
  go_wp2_with fail
  refine (PB.out _ HL.out).mono ?_
  rintro x w1 ⟨rfl, hb1⟩
  go_wp2_with fail
  refine bodyPost_ret (v := .tuple #[.int .u64 0, .bool false, .int .i64 3]) (by simp [results, Tryz.results27, go_sem]) rfl ?_
  exact ⟨rfl, hb1⟩
set_option maxHeartbeats 1000000 in
set_option maxRecDepth 100000 in
theorem cmp_bad1 (s : ByteArray) (PB : ∀ W, Laid W → Calls Tryz.prog 58 #[.string s] W fun x w' => x = .returned (.tuple #[.float .f64 0, .bool false]) ∧ Below W.heap.size W w') (w : World) (hL : Laid w) : Calls Tryz.prog 23 #[.string s, .string ⟨#[48, 112, 48]⟩] w fun x w' => x = .returned (.tuple #[.int .i64 0, .bool false]) ∧ Below w.heap.size w w' := by
  have P0 : ∀ W, Laid W → Calls Tryz.prog 58 #[.string ⟨#[48, 112, 48]⟩] W fun x w' => x = .returned (.tuple #[.float .f64 0, .bool true]) ∧ Below W.heap.size W w' := fun W hW => by
    have h := parse_txt 0 (by decide) W hW
    rw [show Fl.txt 0 = [48, 112, 48] by kernel_rfl, show Fl.canonW 0 = 0 from rfl] at h
    exact h
  have PB := Lib.hid PB
  have P0 := Lib.hid P0
  have HL := Lib.hid hL
  clear hL
  go_enter Tryz.func23, Tryz.ntmps23
  go_wp2_with fail
  refine (PB.out _ HL.out).mono ?_
  rintro x w1 ⟨rfl, hb1⟩
  go_wp2_with fail
  refine (P0.out _ (HL.out.on hb1)).mono ?_
  rintro x w2 ⟨rfl, hb2⟩
  have hb2 := b_trans hb1 hb2
  go_wp2_with fail
  go_ret2
  exact ⟨rfl, hb2⟩
set_option maxHeartbeats 1000000 in
set_option maxRecDepth 100000 in
theorem cmp_bad2 (s : ByteArray) (PB : ∀ W, Laid W → Calls Tryz.prog 58 #[.string s] W fun x w' => x = .returned (.tuple #[.float .f64 0, .bool false]) ∧ Below W.heap.size W w') (w : World) (hL : Laid w) : Calls Tryz.prog 23 #[.string ⟨#[49, 112, 48]⟩, .string s] w fun x w' => x = .returned (.tuple #[.int .i64 0, .bool false]) ∧ Below w.heap.size w w' := by
  have P0 : ∀ W, Laid W → Calls Tryz.prog 58 #[.string ⟨#[49, 112, 48]⟩] W fun x w' => x = .returned (.tuple #[.float .f64 4607182418800017408, .bool true]) ∧ Below W.heap.size W w' := fun W hW => by
    have h := parse_txt 4607182418800017408 (by decide) W hW
    rw [show Fl.txt 4607182418800017408 = [49, 112, 48] by kernel_rfl, canon_self (by decide)] at h
    exact h
  have PB := Lib.hid PB
  have P0 := Lib.hid P0
  have HL := Lib.hid hL
  clear hL
  go_enter Tryz.func23, Tryz.ntmps23
  go_wp2_with fail
  refine (P0.out _ HL.out).mono ?_
  rintro x w1 ⟨rfl, hb1⟩
  go_wp2_with fail
  refine (PB.out _ (HL.out.on hb1)).mono ?_
  rintro x w2 ⟨rfl, hb2⟩
  have hb2 := b_trans hb1 hb2
  go_wp2_with fail
  go_ret2
  exact ⟨rfl, hb2⟩
set_option maxHeartbeats 1000000 in
set_option maxRecDepth 100000 in
theorem parts_kind (b : Nat) (hb : b < 18446744073709551616) (hr : 9218868437227405312 ≤ b % 9223372036854775808) (w : World) (hL : Laid w) :
    Calls Tryz.prog 35 #[.string ⟨(Fl.txt b).toArray⟩] w fun x w' => x = .returned (.tuple #[.string ⟨#[]⟩, .int .i64 0, .int .i64 10]) ∧ Below w.heap.size w w' := by
  have FB := Lib.hid (fun W hW => finite_kind b hb hr W hW)
  have HL := Lib.hid hL
  clear hL hb hr
  go_enter Tryz.func35, Tryz.ntmps35
  go_wp2_with fail
  refine (FB.out _ HL.out).mono ?_
  rintro x w1 ⟨rfl, hb1⟩
  go_wp2_with fail
  refine bodyPost_ret (v := .tuple #[.string ⟨#[]⟩, .int .i64 0, .int .i64 10]) (by simp [results, Tryz.results35, go_sem]) rfl ?_
  exact ⟨rfl, hb1⟩
set_option maxHeartbeats 1000000 in
set_option maxRecDepth 100000 in
theorem parts_zero (b : Nat) (hb : b < 18446744073709551616) (hr : b % 9223372036854775808 = 0) (w : World) (hL : Laid w) :
    Calls Tryz.prog 35 #[.string ⟨(Fl.txt b).toArray⟩] w fun x w' => x = .returned (.tuple #[.string ⟨#[48]⟩, .int .i64 0, .int .i64 0]) ∧ Below w.heap.size w w' := by
  have FB := Lib.hid (fun W hW => finite_num b hb (by omega) W hW)
  have o2 := ord_zero hb (by omega)
  rw [decide_eq_true hr] at o2
  have HL := Lib.hid hL
  clear hL hb hr
  go_enter Tryz.func35, Tryz.ntmps35
  go_wp2_with fail
  refine (FB.out _ HL.out).mono ?_
  rintro x w1 ⟨rfl, hb1⟩
  go_wp2_with fail
  refine bodyPost_ret (v := .tuple #[.string ⟨#[48]⟩, .int .i64 0, .int .i64 0]) (by simp [results, Tryz.results35, go_sem]) rfl ?_
  exact ⟨rfl, hb1⟩
theorem ord_neg {b : Nat} (hb : b < 18446744073709551616) (h0 : 0 < b % 9223372036854775808) (hr : b % 9223372036854775808 < 9218868437227405312) : (FloatKind.f64.format.order b 0 == some Ordering.lt) = decide (9223372036854775808 ≤ b) := by
  rw [order_key hb (by decide) (by omega) (by decide)]
  have k0 : Fl.key 0 = 0 := by decide
  rw [k0]
  unfold Fl.key Fl.skey
  by_cases h : 9223372036854775808 ≤ b
  · rw [decide_eq_true h, if_pos rfl, Int.compare_eq_lt.2 (by omega)]; rfl
  · rw [decide_eq_false h, if_neg (by simp), Int.compare_eq_gt.2 (by omega)]; rfl
set_option maxHeartbeats 1000000 in
set_option maxRecDepth 100000 in
theorem parts_num (b : Nat) (hb : b < 18446744073709551616) (h0 : 0 < b % 9223372036854775808) (hr : b % 9223372036854775808 < 9218868437227405312) (w : World) (hL : Laid w) :
    Calls Tryz.prog 35 #[.string ⟨(Fl.txt b).toArray⟩] w fun x w' => x = .returned (.tuple #[.string ⟨(Fl.sgB b ++ decDigits (Fl.om (b % 9223372036854775808))).toArray⟩, .int .i64 (Fl.oe (b % 9223372036854775808)), .int .i64 0]) ∧ Below w.heap.size w w' := by
  have FB := Lib.hid (fun W hW => finite_num b hb hr W hW)
  have o2 := ord_zero hb hr
  rw [decide_eq_false (by omega)] at o2
  have o3 := ord_neg hb h0 hr
  obtain ⟨_, _, s3, s4⟩ := Fl.om_spec h0
  have SP : ∀ W, Laid W → Calls Tryz.prog 66 #[.float .f64 b] W fun x w' => x = .returned (.tuple #[.int .u64 (Fl.om (b % 9223372036854775808) : Int), .int .i64 (Fl.oe (b % 9223372036854775808))]) ∧ w' = W := fun W hW => split_any b W hb h0 hr hW
  obtain ⟨m, hm⟩ : ∃ m, Fl.om (b % 9223372036854775808) = m := ⟨_, rfl⟩
  obtain ⟨e, he⟩ : ∃ e, Fl.oe (b % 9223372036854775808) = e := ⟨_, rfl⟩
  rw [hm] at s3 s4 SP
  rw [he] at SP
  rw [hm, he]
  have FU := fun W hW => formatUint_any m (by omega) W hW
  obtain ⟨T, hT⟩ : ∃ T : ByteArray, (⟨(decDigits m).toArray⟩ : ByteArray) = T := ⟨_, rfl⟩
  rw [hT] at FU
  have hTs : T.size ≤ 100 := by
    rw [← hT, str_size, Lib.decDigits_length]
    have := Lib.numDigits_eq m s3 (by omega)
    split at this <;> omega
  have hadd := fun W => run_string_add_sum (P := Tryz.prog) (w := W) ⟨#[45]⟩ T (by show 1 + T.size ≤ _; omega)
  obtain ⟨sb, hsb⟩ : ∃ sb, decide (9223372036854775808 ≤ b) = sb := ⟨_, rfl⟩
  rw [hsb] at o3
  have hres : (⟨(Fl.sgB b ++ decDigits m).toArray⟩ : ByteArray) = if sb = true then ⟨#[45]⟩ ++ T else T := by
    rw [← hT, ← hsb]
    unfold Fl.sgB
    by_cases h : 9223372036854775808 ≤ b
    · rw [if_pos h, if_pos (decide_eq_true h), ← str_append]
    · rw [if_neg h, if_neg (by rw [decide_eq_false h]; simp)]; rfl
  rw [hres]
  have SP := Lib.hid SP
  have FU := Lib.hid FU
  have HL := Lib.hid hL
  clear hL hb h0 hr s3 s4 hm he hT hTs hsb hres
  cases sb with
  | true =>
    rw [if_pos rfl]
    go_enter Tryz.func35, Tryz.ntmps35
    go_wp2_with fail
    refine (FB.out _ HL.out).mono ?_
    rintro x w1 ⟨rfl, hb1⟩
    go_wp2_with fail
    refine (SP.out _ (HL.out.on hb1)).mono ?_
    rintro x w2 ⟨rfl, rfl⟩
    go_wp2_with fail
    refine (FU.out _ (HL.out.on hb1)).mono ?_
    rintro x w3 ⟨rfl, hb3⟩
    have hb3 := b_trans hb1 hb3
    go_wp2_with fail
    refine bodyPost_ret (v := .tuple #[.string (⟨#[45]⟩ ++ T), .int .i64 e, .int .i64 0]) (by simp [results, Tryz.results35, go_sem]) rfl ?_
    exact ⟨rfl, hb3⟩
  | false =>
    rw [if_neg (by simp)]
    go_enter Tryz.func35, Tryz.ntmps35
    go_wp2_with fail
    refine (FB.out _ HL.out).mono ?_
    rintro x w1 ⟨rfl, hb1⟩
    go_wp2_with fail
    refine (SP.out _ (HL.out.on hb1)).mono ?_
    rintro x w2 ⟨rfl, rfl⟩
    go_wp2_with fail
    refine (FU.out _ (HL.out.on hb1)).mono ?_
    rintro x w3 ⟨rfl, hb3⟩
    have hb3 := b_trans hb1 hb3
    go_wp2_with fail
    refine bodyPost_ret (v := .tuple #[.string T, .int .i64 e, .int .i64 0]) (by simp [results, Tryz.results35, go_sem]) rfl ?_
    exact ⟨rfl, hb3⟩
end Go.Proofs.YtjapgpmoojfhnaaGreatDoor
