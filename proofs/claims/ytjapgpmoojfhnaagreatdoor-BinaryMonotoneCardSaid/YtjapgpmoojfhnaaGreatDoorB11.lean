/- Shortest at the example of the smallest positive float. awake: the examples of the chapter. parse at strings that are no canonical texts. What the functions answer at strings that are no canonical texts; Parts at those that are. The reference's Valid and number: canonical integers. The reference's Valid and number, walked. The reference's number, walked. The reference's Of, walked case by case. The reference's Of at every text: canonical or not. -/
import Derived.Test.YtjapgpmoojfhnaaGreatDoorB08
import Derived.Test.YtjapgpmoojfhnaaGreatDoorB09
import Derived.Test.YtjapgpmoojfhnaaGreatDoorB10
import Derived.Lib.AtoiAllCases
namespace Go.Proofs.YtjapgpmoojfhnaaGreatDoor
open Go.RowKit Go.Lib

theorem b_trans {a W W' : World} (h : Below a.heap.size a W) (hb : Below W.heap.size W W') : Below a.heap.size a W' := h.trans (hb.mono h.size)
theorem cmp_head (a b : UInt8) (x y : List UInt8) : (a < b → Lib.compareBytes (a :: x) (b :: y) = -1) ∧ (b < a → Lib.compareBytes (a :: x) (b :: y) = 1) := by
  refine ⟨fun h => ?_, fun h => ?_⟩
  · rw [Lib.compareBytes, if_pos h]
  · rw [Lib.compareBytes, if_neg (fun h2 => by
      have h1 : b.toNat < a.toNat := h
      have h3 : a.toNat < b.toNat := h2
      omega), if_pos h]
/-- The order of two texts of one length whose first bytes part. -/
theorem ord_head {A B : ByteArray} {a b : UInt8} {x y : List UInt8} (hA : A.data.toList = a :: x) (hB : B.data.toList = b :: y) (hl : x.length = y.length) : (a < b → ordB A B = -1) ∧ (b < a → ordB A B = 1) := by
  have hs : A.size = B.size := by
    have h1 : A.size = A.data.toList.length := by rw [Array.length_toList]; rfl
    have h2 : B.size = B.data.toList.length := by rw [Array.length_toList]; rfl
    rw [h1, h2, hA, hB]; simp [hl]
  obtain ⟨c1, c2⟩ := cmp_head a b x y
  unfold ordB
  rw [if_pos hs, hA, hB]
  exact ⟨c1, c2⟩
theorem trim_zeros (n : Nat) : trimRightB (53 :: List.replicate n 48) 48 = [53] := by
  unfold trimRightB
  rw [List.reverse_cons, List.reverse_replicate]
  have e : (List.replicate n (48 : UInt8) ++ [53]).dropWhile (· == 48) = [53] := by
    induction n with
    | zero => rfl
    | succ n ih => rw [List.replicate_succ, List.cons_append, List.dropWhile_cons_of_pos (by rfl)]; exact ih
  rw [e]
  rfl
theorem txt_one : Fl.txt 1 = [49, 112, 45, 49, 48, 55, 52] := by kernel_rfl
theorem split_one (w : World) (hL : Laid w) : Calls Tryz.prog 66 #[.float .f64 1] w fun x w' => x = .returned (.tuple #[.int .u64 1, .int .i64 (-1074)]) ∧ w' = w := by
  have h := split_any 1 w (by decide) (by decide) (by decide) hL
  have e1 : Fl.rmag Ieee.double (1 % 9223372036854775808) / 2 ^ tzN (Fl.rmag Ieee.double (1 % 9223372036854775808)) = 1 := by kernel_rfl
  have e2 : Fl.rplace Ieee.double (1 % 9223372036854775808) + (tzN (Fl.rmag Ieee.double (1 % 9223372036854775808)) : Nat) = -1074 := by kernel_rfl
  rw [e1, e2] at h
  exact h
set_option maxHeartbeats 2000000 in
set_option maxRecDepth 100000 in
theorem shortest_one (w : World) (hL : Laid w) : Calls Tryz.prog 36 #[.string ⟨(Fl.txt 1).toArray⟩] w fun x w' => x = .returned (.tuple #[.string ⟨#[53, 101, 45, 51, 50, 52]⟩, .int .i64 0]) ∧ Below w.heap.size w w' := by
  have FI := Lib.hid (fun W hW => finite_num 1 (by decide) (by decide) W hW)
  have o1 : (FloatKind.f64.format.order 1 0 == some Ordering.eq) = false := by rw [ord_zero (by decide) (by decide)]; decide
  have o2 : (FloatKind.f64.format.order 1 0 == some Ordering.lt) = false := by rw [ord_lt (by decide) (by decide)]; decide
  have SP := Lib.hid (fun W hW => split_one W hW)
  have LN : ∀ W, Calls Tryz.prog 67 #[.int .u64 1] W fun x w' => x = .returned (.int .i64 1) ∧ w' = W := fun W => Tryz.bits_Len64 1 W (by decide) (by decide)
  obtain ⟨v, lo, hi, t1, t2, t3, l1, l2, l3⟩ := Fl.ex_texts
  obtain ⟨K, hK⟩ : ∃ K, K = 1076 := ⟨_, rfl⟩
  obtain ⟨e1, e2, e3⟩ := Fl.ex_pow hK
  have S1 : ∀ W, Laid W → Calls Tryz.prog 73 #[.int .u64 4, .int .i64 (-1076)] W fun x w' => x = .returned (.string ⟨(52 :: 57 :: v).toArray⟩) ∧ Below W.heap.size W w' := fun W hW => by
    have h := scaled_neg 4 K (-1076) W hW (by decide) (by decide) (by omega) (by decide) (by omega)
    rw [e1, t1] at h
    exact h
  have S2 : ∀ W, Laid W → Calls Tryz.prog 73 #[.int .u64 2, .int .i64 (-1076)] W fun x w' => x = .returned (.string ⟨(50 :: 52 :: lo).toArray⟩) ∧ Below W.heap.size W w' := fun W hW => by
    have h := scaled_neg 2 K (-1076) W hW (by decide) (by decide) (by omega) (by decide) (by omega)
    rw [e2, t2] at h
    exact h
  have S3 : ∀ W, Laid W → Calls Tryz.prog 73 #[.int .u64 6, .int .i64 (-1076)] W fun x w' => x = .returned (.string ⟨(55 :: 52 :: hi).toArray⟩) ∧ Below W.heap.size W w' := fun W hW => by
    have h := scaled_neg 6 K (-1076) W hW (by decide) (by decide) (by omega) (by decide) (by omega)
    rw [e3, t3] at h
    exact h
  obtain ⟨VB, hVB⟩ : ∃ B : ByteArray, (⟨(52 :: 57 :: v).toArray⟩ : ByteArray) = B := ⟨_, rfl⟩
  obtain ⟨LB, hLB⟩ : ∃ B : ByteArray, (⟨(50 :: 52 :: lo).toArray⟩ : ByteArray) = B := ⟨_, rfl⟩
  obtain ⟨HB, hHB⟩ : ∃ B : ByteArray, (⟨(55 :: 52 :: hi).toArray⟩ : ByteArray) = B := ⟨_, rfl⟩
  rw [hVB] at S1
  rw [hLB] at S2
  rw [hHB] at S3
  have v1 : VB.size = 753 := by rw [← hVB, str_size]; simp [l1]
  have S1 := Lib.hid S1
  have S2 := Lib.hid S2
  have S3 := Lib.hid S3
  have LN := Lib.hid LN
  have HL := Lib.hid hL
  have HT := Lib.hid (And.intro hVB (And.intro hLB (And.intro hHB (And.intro l1 (And.intro l2 l3)))))
  clear hK e1 e2 e3 hVB hLB hHB l1 l2 l3 t1 t2 t3 hL
  go_enter Tryz.func36, Tryz.ntmps36
  go_wp2_with fail
  refine (FI.out _ HL.out).mono ?_
  rintro x w1 ⟨rfl, hb1⟩
  have hL1 := HL.out.on hb1
  go_wp2_with fail
  refine (SP.out _ hL1).mono ?_
  rintro x w2 ⟨rfl, rfl⟩
  go_wp2_with fail
  go_loopg [6, 7] 0 (fun _ t6 t7 wx => t6 = .int .u64 1 ∧ t7 = .int .i64 (-1074) ∧ wx = w2)
  case atStart => exact ⟨rfl, rfl, rfl⟩
  case round =>
    obtain ⟨rfl, rfl, hww⟩ := hrel
    subst hww
    obtain ⟨w2, hw2⟩ : ∃ W, W = wr := ⟨_, rfl⟩
    subst hw2
    go_wp2_with fail
    refine (LN.out _).mono ?_
    rintro x w3 ⟨rfl, rfl⟩
    go_upto_region 16 with fail
    obtain ⟨ev, hev⟩ : ∃ ev, (bits BinOp.and IntKind.u64 1 1 == 0) = ev := ⟨_, rfl⟩
    rw [hev]
    obtain ⟨wa, hwa⟩ : ∃ wa, w3.alloc (.cells #[.bool ev] 4) = wa := ⟨_, rfl⟩
    obtain ⟨XE, hXE⟩ : ∃ XE, w3.heap.size = XE := ⟨_, rfl⟩
    have hE := heap_alloc_new w3 (.cells #[.bool ev] 4)
    rw [hwa, hXE] at hE
    have hba : Below w3.heap.size w3 wa := by rw [← hwa]; exact (Below.refl _ _).alloc (Nat.le_refl _) _
    have hLa := hL1.on hba
    have hca := hb1.trans (hba.mono hb1.size)
    rw [hwa, hXE]
    have HE := Lib.hid hE
    have HA := Lib.hid hca
    have HLa := Lib.hid hLa
    clear hev hwa hXE hE hba hL1 hb1 hLa hca
    go_wp2_with fail
    refine (S1.out _ HLa.out).mono ?_
    rintro x w4 ⟨rfl, hb4⟩
    have hL4 := HLa.out.on hb4
    go_wp2_with fail
    refine (S2.out _ hL4).mono ?_
    rintro x w5 ⟨rfl, hb5⟩
    have hL5 := hL4.on hb5
    go_wp2_with fail
    refine (S3.out _ hL5).mono ?_
    rintro x w6 ⟨rfl, hb6⟩
    have hL6 := hL5.on hb6
    have hab := (hb4.trans (hb5.mono hb4.size))
    have habc := hab.trans (hb6.mono hab.size)
    have HB6 := Lib.hid habc
    have HL6 := Lib.hid hL6
    clear hL4 hL5 hL6 hb4 hb5 hb6 hab habc
    go_upto_region 19 with fail
    have q := two_blocks w6 (.cells #[.string LB] 9) (.cells #[.string HB] 9)
    obtain ⟨wB, hwB⟩ : ∃ wB, (w6.alloc (.cells #[.string LB] 9)).alloc (.cells #[.string HB] 9) = wB := ⟨_, rfl⟩
    obtain ⟨X, hX⟩ : ∃ X, w6.heap.size = X := ⟨_, rfl⟩
    rw [hwB, hX] at q
    rw [hwB, hX, show min (-1076 : Int) 0 = -1076 by decide]
    obtain ⟨q1, q2, q3, q4⟩ := q
    have hEb := lt_of_block HE.out
    have hsz := HB6.out.size
    have hCells : ∀ W, Below wB.heap.size wB W → W.cell? ⟨X, 0, none⟩ = some (.string LB) ∧ W.cell? ⟨X + 1, 0, none⟩ = some (.string HB) ∧ W.cell? ⟨XE, 0, none⟩ = some (.bool ev) := fun W hW => by
      refine ⟨at_block ((hW.block X (by omega)).trans q1) 0 _ rfl, at_block ((hW.block (X + 1) (by omega)).trans q2) 0 _ rfl, ?_⟩
      have e1 := (hW.block XE (by omega)).trans ((q3.block XE (by omega)).trans ((HB6.out.block XE hEb).trans HE.out))
      exact at_block e1 0 _ rfl
    have hLB := HL6.out.on (show Below w6.heap.size w6 wB by rw [hX]; exact q3)
    have hcB := (HA.out.trans (HB6.out.mono HA.out.size)).trans (q3.mono (by have := HA.out.size; omega))
    have HC := Lib.hid hCells
    have HLB2 := Lib.hid hLB
    have HCB := Lib.hid hcB
    have HXq := Lib.hid hX
    clear hwB hX q1 q2 q3 q4 hEb hsz hCells hLB hcB
    have RP : ∀ W, Calls Tryz.prog 76 #[.string ⟨#[48]⟩, .int .i64 752] W fun z w' => z = .returned (.string ⟨(repeatL [48] 752).toArray⟩) ∧ Below W.heap.size W w' := fun W => Tryz.strings_Repeat ⟨#[48]⟩ 752 W (by decide) (by decide)
    obtain ⟨ZB, hZB⟩ : ∃ ZB : ByteArray, (⟨(repeatL [48] 752).toArray⟩ : ByteArray) = ZB := ⟨_, rfl⟩
    rw [hZB] at RP
    have RP := Lib.hid RP
    have zs : ZB.size = 752 := by rw [← hZB, str_size, repeatL_length]; rfl
    have HZB := Lib.hid hZB
    clear hZB
    have v2 : VB.extract 0 1 = ⟨#[52]⟩ := by rw [← HT.out.1]; apply ByteArray.ext; simp
    have NF := Lib.hid (fun W => next_four W)
    go_wp2_with fail
    go_loopg [15, 16, 17, 18, 19, 20, 21] 0 (fun _ t15 _ _ _ _ _ _ wx => t15 = .int .i64 1 ∧ wx = wB)
    case atStart => exact ⟨rfl, rfl⟩
    case round =>
      obtain ⟨rfl, hww⟩ := hrel
      subst hww
      obtain ⟨wB, hw2⟩ : ∃ W, W = wr := ⟨_, rfl⟩
      subst hw2
      go_wp2_with fail
      refine (RP.out _).mono ?_
      rintro x w7 ⟨rfl, hb7⟩
      go_upto_region 23 with fail
      obtain ⟨DN, hDN⟩ : ∃ DN : ByteArray, (⟨#[52]⟩ : ByteArray) ++ ZB = DN := ⟨_, rfl⟩
      obtain ⟨UP, hUP⟩ : ∃ UP : ByteArray, (⟨#[53]⟩ : ByteArray) ++ ZB = UP := ⟨_, rfl⟩
      have a1 := fun W => run_string_add_sum (P := Tryz.prog) (w := W) ⟨#[52]⟩ ZB (by rw [zs]; decide)
      have a2 := fun W => run_string_add_sum (P := Tryz.prog) (w := W) ⟨#[53]⟩ ZB (by rw [zs]; decide)
      rw [hDN] at a1
      rw [hUP] at a2
      have hDs : DN.size = 753 := by rw [← hDN, ByteArray.size_append, zs]; rfl
      have hUs : UP.size = 753 := by rw [← hUP, ByteArray.size_append, zs]; rfl
      have hDl : DN.data.toList = 52 :: repeatL [48] 752 := by rw [← hDN, ← HZB.out]; simp
      have hUl : UP.data.toList = 53 :: repeatL [48] 752 := by rw [← hUP, ← HZB.out]; simp
      obtain ⟨t1, t2, t3, t4, t5, t6⟩ := HT.out
      have hLs : LB.size = 753 := by rw [← t2, str_size]; simp [t5]
      have hHs : HB.size = 753 := by rw [← t3, str_size]; simp [t6]
      have hrl : (repeatL [48] 752).length = 752 := by rw [repeatL_length]; rfl
      have i1 : Fl.insideP (ordB DN LB) (ordB DN HB) ev = true := by
        rw [(ord_head hDl (show LB.data.toList = 50 :: 52 :: lo by rw [← t2]) (by rw [hrl]; simp [t5])).2 (by decide), (ord_head hDl (show HB.data.toList = 55 :: 52 :: hi by rw [← t3]) (by rw [hrl]; simp [t6])).1 (by decide)]
        rfl
      have i2 : Fl.insideP (ordB UP LB) (ordB UP HB) ev = true := by
        rw [(ord_head hUl (show LB.data.toList = 50 :: 52 :: lo by rw [← t2]) (by rw [hrl]; simp [t5])).2 (by decide), (ord_head hUl (show HB.data.toList = 55 :: 52 :: hi by rw [← t3]) (by rw [hrl]; simp [t6])).1 (by decide)]
        rfl
      have ID := fun W h => inside_any DN LB HB ev ⟨X, 0, none⟩ ⟨X + 1, 0, none⟩ ⟨XE, 0, none⟩ W (HC.out W h).1 (HC.out W h).2.1 (HC.out W h).2.2 (by omega) (by omega) (by omega)
      have IU := fun W h => inside_any UP LB HB ev ⟨X, 0, none⟩ ⟨X + 1, 0, none⟩ ⟨XE, 0, none⟩ W (HC.out W h).1 (HC.out W h).2.1 (HC.out W h).2.2 (by omega) (by omega) (by omega)
      rw [i1] at ID
      rw [i2] at IU
      have ID := Lib.hid ID
      have IU := Lib.hid IU
      have HUP := Lib.hid (And.intro hUl hUs)
      clear hDN hUP hDs hUs hDl hUl t1 t2 t3 t4 t5 t6 hLs hHs hrl i1 i2
      go_region_held3 (fun W => Below wB.heap.size wB W) ((first | assumption | exact b_drew (by assumption))) (first | (go_at_call 77; refine (NF.out _).mono ?_; rintro x w8 ⟨rfl, hb8⟩; have hb8' := b_trans (by assumption) hb8))
      clear hb7 hb8
      go_wp2_with fail
      refine (ID.out _ hb8').mono ?_
      rintro x w9 ⟨rfl, hb9⟩
      have hb9' := b_trans hb8' hb9
      go_wp2_with fail
      refine (IU.out _ hb9').mono ?_
      rintro x w10 ⟨rfl, hb10⟩
      have hb10' := b_trans hb9' hb10
      clear hb8' hb9 hb9' hb10
      go_upto_region 25 with fail
      obtain ⟨VT, hVT⟩ : ∃ VT, VB.extract 1 753 = VT := ⟨_, rfl⟩
      obtain ⟨Z1, hZ1⟩ : ∃ Z1, ZB.extract 1 752 = Z1 := ⟨_, rfl⟩
      obtain ⟨HF, hHF⟩ : ∃ HF : ByteArray, (⟨#[53]⟩ : ByteArray) ++ Z1 = HF := ⟨_, rfl⟩
      obtain ⟨t1, t2, t3, t4, t5, t6⟩ := HT.out
      have hVl : VT.data.toList = 57 :: v := by
        rw [← hVT, ← t1]
        simp
        exact List.take_of_length_le (by omega)
      have hZl : Z1.data.toList = repeatL [48] 751 := by
        rw [← hZ1, ← HZB.out]
        have e : repeatL [48] 752 = 48 :: repeatL [48] 751 := rfl
        rw [e]
        simp
        exact List.take_of_length_le (by rw [repeatL_length]; decide)
      have hZs : Z1.size = 751 := by
        have h1 : Z1.size = Z1.data.toList.length := by rw [Array.length_toList]; rfl
        rw [h1, hZl, repeatL_length]; rfl
      have hHl : HF.data.toList = 53 :: repeatL [48] 751 := by rw [← hHF]; simp [hZl]
      have a3 := fun W => run_string_add_sum (P := Tryz.prog) (w := W) ⟨#[53]⟩ Z1 (by rw [hZs]; decide)
      rw [hHF] at a3
      have CM := fun W => Tryz.strings_Compare VT HF W
      rw [hVl, hHl, (cmp_head 57 53 v (repeatL [48] 751)).2 (by decide)] at CM
      have CM := Lib.hid CM
      obtain ⟨hUl, hUs⟩ := HUP.out
      have it : itoa (-324) = [45, 51, 50, 52] := by kernel_rfl
      have CA := fun W hW => canonical_any UP ⟨#[53]⟩ (-1076) (-324) W (by omega) (by rw [hUl, Fl.repeat_one, trim_zeros]) (by decide) (by decide) (by rw [hUs]; decide) (by rw [it]; decide) hW
      have e9 : (⟨#[53]⟩ : ByteArray) ++ ⟨#[101]⟩ ++ ⟨(itoa (-324)).toArray⟩ = ⟨#[53, 101, 45, 51, 50, 52]⟩ := by kernel_rfl
      rw [e9] at CA
      have CA := Lib.hid CA
      clear t1 t2 t3 t4 t5 t6 hVl hZl hHl hHF hUl hUs e9 it
      go_region_held3 (fun W => Below wB.heap.size wB W) ((first | assumption | exact b_drew (by assumption))) (first | (go_at_call 78; with_reducible refine (CM.out _).mono ?_; rintro x w8 ⟨rfl, rfl⟩))
      have hbq := b_drew hb10'
      have hLq := HLB2.out.on hbq
      have HBQ := Lib.hid (And.intro (b_trans HCB.out hbq) hLq)
      clear hb10' hbq hLq
      go_wp2_with fail
      refine (CA.out _ HBQ.out.2).mono ?_
      rintro x w11 ⟨rfl, hb11⟩
      go_wp2_with fail
      go_ret2
      exact ⟨rfl, b_trans HBQ.out.1 hb11⟩
end Go.Proofs.YtjapgpmoojfhnaaGreatDoor

namespace Go.Proofs.YtjapgpmoojfhnaaGreatDoor
open Go.RowKit Go.Lib

theorem wideW_double {b : Nat} (hb : b < 18446744073709551616) (h : b % 9223372036854775808 ≤ 9218868437227405312) : Fl.wideW Ieee.double b = b := by
  unfold Fl.wideW
  rw [Fl.double_is.2.2.2.2, Fl.wide_double h]
  split <;> omega
set_option maxHeartbeats 1000000 in
set_option maxRecDepth 100000 in
theorem awake_any (w : World) (hL : Laid w) : Calls Tryz.prog 16 #[] w fun x w' => x = .returned (.bool true) ∧ Below w.heap.size w w' := by
  have FB : ∀ W, Laid W → Calls Tryz.prog 25 #[.int .u64 4609434218613702656, .int .i64 64] W fun x w' => x = .returned (.tuple #[.string ⟨#[51, 112, 45, 49]⟩, .int .i64 0]) ∧ Below W.heap.size W w' := fun W hW => by
    have h := frombits64 4609434218613702656 (by decide) W hW
    rw [wideW_double (by decide) (by decide), show Fl.txt 4609434218613702656 = [51, 112, 45, 49] by kernel_rfl] at h
    exact h
  have BI : ∀ W, Laid W → Calls Tryz.prog 27 #[.string ⟨#[49, 112, 49, 54]⟩, .int .i64 16] W fun x w' => x = .returned (.tuple #[.int .u64 31744, .bool false, .int .i64 0]) ∧ Below W.heap.size W w' := fun W hW => by
    have h := binbits_any16 4679240012837945344 (by decide) W hW
    rw [show Fl.txt 4679240012837945344 = [49, 112, 49, 54] by kernel_rfl, show (Fl.bitsR Fl.half 4679240012837945344).1 = 31744 by kernel_rfl, show (Fl.bitsR Fl.half 4679240012837945344).2 = false by kernel_rfl] at h
    exact h
  have SH : ∀ W, Laid W → Calls Tryz.prog 36 #[.string ⟨#[49, 112, 45, 49, 48, 55, 52]⟩] W fun x w' => x = .returned (.tuple #[.string ⟨#[53, 101, 45, 51, 50, 52]⟩, .int .i64 0]) ∧ Below W.heap.size W w' := fun W hW => by
    have h := shortest_one W hW
    rw [txt_one] at h
    exact h
  have V1 : ∀ W, Laid W → Calls Tryz.prog 34 #[.string ⟨#[45, 48, 112, 48]⟩] W fun x w' => x = .returned (.bool true) ∧ Below W.heap.size W w' := fun W _ => by
    have h := parse_zero 9223372036854775808 (by decide) W (by decide)
    rw [show Fl.txt 9223372036854775808 = [45, 48, 112, 48] by kernel_rfl] at h
    exact valid_of _ _ _ W h
  have V2 : ∀ W, Laid W → Calls Tryz.prog 34 #[.string ⟨#[50, 112, 48]⟩] W fun x w' => x = .returned (.bool false) ∧ Below W.heap.size W w' := fun W hW => valid_of _ _ _ W (parse_two W hW)
  have FB := Lib.hid FB
  have BI := Lib.hid BI
  have SH := Lib.hid SH
  have V1 := Lib.hid V1
  have V2 := Lib.hid V2
  have HL := Lib.hid hL
  clear hL
  go_enter Tryz.func16, Tryz.ntmps16
  go_wp2_with fail
  refine (FB.out _ HL.out).mono ?_
  rintro x w1 ⟨rfl, hb1⟩
  go_wp2_with fail
  refine (BI.out _ (HL.out.on hb1)).mono ?_
  rintro x w2 ⟨rfl, hb2⟩
  have hb2 := b_trans hb1 hb2
  go_wp2_with fail
  refine (SH.out _ (HL.out.on hb2)).mono ?_
  rintro x w3 ⟨rfl, hb3⟩
  have hb3 := b_trans hb2 hb3
  go_wp2_with fail
  refine (V1.out _ (HL.out.on hb3)).mono ?_
  rintro x w4 ⟨rfl, hb4⟩
  have hb4 := b_trans hb3 hb4
  go_wp2_with fail
  refine (V2.out _ (HL.out.on hb4)).mono ?_
  rintro x w5 ⟨rfl, hb5⟩
  have hb5 := b_trans hb4 hb5
  go_wp2_with fail
  go_ret
  exact ⟨rfl, hb5⟩
end Go.Proofs.YtjapgpmoojfhnaaGreatDoor

namespace Go.Proofs.YtjapgpmoojfhnaaGreatDoor
open Go.RowKit Go.Lib

theorem ba_of (s : ByteArray) : (⟨s.data.toList.toArray⟩ : ByteArray) = s := by cases s; simp
theorem ba_size (s : ByteArray) : s.size = s.data.toList.length := by rw [Array.length_toList]; rfl
end Go.Proofs.YtjapgpmoojfhnaaGreatDoor

namespace Go.Proofs.YtjapgpmoojfhnaaGreatDoor
open Go.RowKit Go.Lib

theorem ord_neg {b : Nat} (hb : b < 18446744073709551616) (h0 : 0 < b % 9223372036854775808) (hr : b % 9223372036854775808 < 9218868437227405312) : (FloatKind.f64.format.order b 0 == some Ordering.lt) = decide (9223372036854775808 ≤ b) := by
  rw [order_key hb (by decide) (by omega) (by decide)]
  have k0 : Fl.key 0 = 0 := by decide
  rw [k0]
  unfold Fl.key Fl.skey
  by_cases h : 9223372036854775808 ≤ b
  · rw [decide_eq_true h, if_pos rfl, Int.compare_eq_lt.2 (by omega)]; rfl
  · rw [decide_eq_false h, if_neg (by simp), Int.compare_eq_gt.2 (by omega)]; rfl
end Go.Proofs.YtjapgpmoojfhnaaGreatDoor

namespace Go.Proofs.YtjapgpmoojfhnaaGreatDoor
open Go.RowKit Go.Lib

namespace Fl
end Fl
end Go.Proofs.YtjapgpmoojfhnaaGreatDoor

namespace Go.Proofs.YtjapgpmoojfhnaaGreatDoor
open Go.RowKit Go.Lib

theorem byte_at {s : ByteArray} {k : Nat} (h : k < s.size) {d : UInt8} (hd : s[k]'h = d) : s.data.toList[k]? = some d := by
  rw [← hd]
  simp [h]
  rfl
end Go.Proofs.YtjapgpmoojfhnaaGreatDoor

namespace Go.Proofs.YtjapgpmoojfhnaaGreatDoor
open Go.RowKit Go.Lib

namespace Fl
end Fl
end Go.Proofs.YtjapgpmoojfhnaaGreatDoor

namespace Go.Proofs.YtjapgpmoojfhnaaGreatDoor
open Go.RowKit Go.Lib

/-- What the walks of Of share: the string's rest behind its sign. -/
structure OfPre (s XB : ByteArray) (b45 : Bool) : Prop where
  pos : 0 < s.size
  le : s.size ≤ 300
  head : ∀ h : 0 < s.size, (((s[0]'h).toNat : Int) == 45) = b45
  cut : b45 = true → s.extract 1 s.size = XB
  whole : b45 = false → s = XB
theorem OfPre.len {s XB : ByteArray} {b45 : Bool} (h : OfPre s XB b45) : XB.size ≤ 300 := by
  have h2 := h.le
  cases b45 with
  | true => rw [← h.cut rfl]; simp; omega
  | false => rw [← h.whole rfl]; exact h2
end Go.Proofs.YtjapgpmoojfhnaaGreatDoor

namespace Go.Proofs.YtjapgpmoojfhnaaGreatDoor
open Go.RowKit Go.Lib

theorem ba_ext {a b : ByteArray} (h : a.data.toList = b.data.toList) : a = b := by
  rw [← ba_of a, ← ba_of b, h]
end Go.Proofs.YtjapgpmoojfhnaaGreatDoor
