/- Shortest at the example of the smallest positive float. round: m / 2^n, the half to even. A format's row, boxed. Bits of a number that is neither zero nor infinite, at the format half. Bits of a number that is neither zero nor infinite, at the format single. Bits of a number that is neither zero nor infinite, at the format double. -/
import Derived.Test.YtjapgpmoojfhnaaGreatDoorB01
import Derived.Test.YtjapgpmoojfhnaaGreatDoorB09
import Derived.Test.YtjapgpmoojfhnaaGreatDoorB15
import Derived.Test.YtjapgpmoojfhnaaGreatDoorB16
import Derived.Laws.BitsAllLaws
set_option maxHeartbeats 16000000
set_option maxRecDepth 100000
set_option linter.unusedSimpArgs false
set_option linter.unusedVariables false
namespace Go.Proofs.YtjapgpmoojfhnaaGreatDoor
open Go.RowKit Go.Lib
theorem b_trans {a W W' : World} (h : Below a.heap.size a W) (hb : Below W.heap.size W W') : Below a.heap.size a W' := h.trans (hb.mono h.size)
theorem cmp_head (a b : UInt8) (x y : List UInt8) : (a < b → Lib.compareBytes (a :: x) (b :: y) = -1) ∧ (b < a → Lib.compareBytes (a :: x) (b :: y) = 1) := by
 refine ⟨fun h => ?_, fun h => ?_⟩
 · rw [Lib.compareBytes, if_pos h]
 · rw [Lib.compareBytes, if_neg (fun h2 => by
    have h1 : b.toNat < a.toNat := h
    have h3 : a.toNat < b.toNat := h2
    omega), if_pos h]
theorem ord_head {A B : ByteArray} {a b : UInt8} {x y : List UInt8} (hA : A.data.toList = a :: x) (hB : B.data.toList = b :: y) (hl : x.length = y.length) : (a < b → ordB A B = -1) ∧ (b < a → ordB A B = 1) := by
 have hs : A.size = B.size := by
  have h1 : A.size = A.data.toList.length := by rw [Array.length_toList]; rfl
  have h2 : B.size = B.data.toList.length := by rw [Array.length_toList]; rfl
  rw [h1, h2, hA, hB]; simp [hl]
 obtain ⟨c1, c2⟩ := cmp_head a b x y
 unfold ordB
 rw [if_pos hs, hA, hB]
 exact ⟨c1, c2⟩
theorem trim_zeros (n : Nat) : trimRightB (53 :: List.replicate n 48) 48 = [53] := by
 unfold trimRightB
 rw [List.reverse_cons, List.reverse_replicate]
 have e : (List.replicate n (48 : UInt8) ++ [53]).dropWhile (· == 48) = [53] := by
  induction n with
  | zero => rfl
  | succ n ih => rw [List.replicate_succ, List.cons_append, List.dropWhile_cons_of_pos (by rfl)]; exact ih
 rw [e]
 rfl
theorem txt_one : Fl.txt 1 = [49, 112, 45, 49, 48, 55, 52] := by kernel_rfl
theorem split_one (w : World) (hL : Laid w) : Calls Tryz.prog 66 #[.float .f64 1] w fun x w' => x = .returned (.tuple #[.int .u64 1, .int .i64 (-1074)]) ∧ w' = w := by
 have h := split_any 1 w (by decide) (by decide) (by decide) hL
 have e1 : Fl.rmag Ieee.double (1 % 9223372036854775808) / 2 ^ tzN (Fl.rmag Ieee.double (1 % 9223372036854775808)) = 1 := by kernel_rfl
 have e2 : Fl.rplace Ieee.double (1 % 9223372036854775808) + (tzN (Fl.rmag Ieee.double (1 % 9223372036854775808)) : Nat) = -1074 := by kernel_rfl
 rw [e1, e2] at h
 exact h
theorem shortest_one (w : World) (hL : Laid w) : Calls Tryz.prog 36 #[.string ⟨(Fl.txt 1).toArray⟩] w fun x w' => x = .returned (.tuple #[.string ⟨#[53, 101, 45, 51, 50, 52]⟩, .int .i64 0]) ∧ Below w.heap.size w w' := by
 have FI := Lib.hid (fun W hW => finite_num 1 (by decide) (by decide) W hW)
 have o1 : (FloatKind.f64.format.order 1 0 == some Ordering.eq) = false := by rw [ord_zero (by decide) (by decide)]; decide
 have o2 : (FloatKind.f64.format.order 1 0 == some Ordering.lt) = false := by rw [ord_lt (by decide) (by decide)]; decide
 have SP := Lib.hid (fun W hW => split_one W hW)
 have LN : ∀ W, Calls Tryz.prog 67 #[.int .u64 1] W fun x w' => x = .returned (.int .i64 1) ∧ w' = W := fun W => Tryz.bits_Len64 1 W (by decide) (by decide)
 obtain ⟨v, lo, hi, t1, t2, t3, l1, l2, l3⟩ := Fl.ex_texts
 obtain ⟨K, hK⟩ : ∃ K, K = 1076 := ⟨_, rfl⟩
 obtain ⟨e1, e2, e3⟩ := Fl.ex_pow hK
 have S1 : ∀ W, Laid W → Calls Tryz.prog 73 #[.int .u64 4, .int .i64 (-1076)] W fun x w' => x = .returned (.string ⟨(52 :: 57 :: v).toArray⟩) ∧ Below W.heap.size W w' := fun W hW => by
  have h := scaled_neg 4 K (-1076) W hW (by decide) (by decide) (by omega) (by decide) (by omega)
  rw [e1, t1] at h
  exact h
 have S2 : ∀ W, Laid W → Calls Tryz.prog 73 #[.int .u64 2, .int .i64 (-1076)] W fun x w' => x = .returned (.string ⟨(50 :: 52 :: lo).toArray⟩) ∧ Below W.heap.size W w' := fun W hW => by
  have h := scaled_neg 2 K (-1076) W hW (by decide) (by decide) (by omega) (by decide) (by omega)
  rw [e2, t2] at h
  exact h
 have S3 : ∀ W, Laid W → Calls Tryz.prog 73 #[.int .u64 6, .int .i64 (-1076)] W fun x w' => x = .returned (.string ⟨(55 :: 52 :: hi).toArray⟩) ∧ Below W.heap.size W w' := fun W hW => by
  have h := scaled_neg 6 K (-1076) W hW (by decide) (by decide) (by omega) (by decide) (by omega)
  rw [e3, t3] at h
  exact h
 obtain ⟨VB, hVB⟩ : ∃ B : ByteArray, (⟨(52 :: 57 :: v).toArray⟩ : ByteArray) = B := ⟨_, rfl⟩
 obtain ⟨LB, hLB⟩ : ∃ B : ByteArray, (⟨(50 :: 52 :: lo).toArray⟩ : ByteArray) = B := ⟨_, rfl⟩
 obtain ⟨HB, hHB⟩ : ∃ B : ByteArray, (⟨(55 :: 52 :: hi).toArray⟩ : ByteArray) = B := ⟨_, rfl⟩
 rw [hVB] at S1
 rw [hLB] at S2
 rw [hHB] at S3
 have v1 : VB.size = 753 := by rw [← hVB, str_size]; simp [l1]
 have S1 := Lib.hid S1
 have S2 := Lib.hid S2
 have S3 := Lib.hid S3
 have LN := Lib.hid LN
 have HL := Lib.hid hL
 have HT := Lib.hid (And.intro hVB (And.intro hLB (And.intro hHB (And.intro l1 (And.intro l2 l3)))))
 clear hK e1 e2 e3 hVB hLB hHB l1 l2 l3 t1 t2 t3 hL
 go_enter Tryz.func36, Tryz.ntmps36
 go_wp2_with fail
 refine (FI.out _ HL.out).mono ?_
 rintro x w1 ⟨rfl, hb1⟩
 have hL1 := HL.out.on hb1
 go_wp2_with fail
 refine (SP.out _ hL1).mono ?_
 rintro x w2 ⟨rfl, rfl⟩
 go_wp2_with fail
 go_loopg [6, 7] 0 (fun _ t6 t7 wx => t6 = .int .u64 1 ∧ t7 = .int .i64 (-1074) ∧ wx = w2)
 case atStart => exact ⟨rfl, rfl, rfl⟩
 case round =>
  obtain ⟨rfl, rfl, hww⟩ := hrel
  subst hww
  obtain ⟨w2, hw2⟩ : ∃ W, W = wr := ⟨_, rfl⟩
  subst hw2
  go_wp2_with fail
  refine (LN.out _).mono ?_
  rintro x w3 ⟨rfl, rfl⟩
  go_upto_region 16 with fail
  obtain ⟨ev, hev⟩ : ∃ ev, (bits BinOp.and IntKind.u64 1 1 == 0) = ev := ⟨_, rfl⟩
  rw [hev]
  obtain ⟨wa, hwa⟩ : ∃ wa, w3.alloc (.cells #[.bool ev] 4) = wa := ⟨_, rfl⟩
  obtain ⟨XE, hXE⟩ : ∃ XE, w3.heap.size = XE := ⟨_, rfl⟩
  have hE := heap_alloc_new w3 (.cells #[.bool ev] 4)
  rw [hwa, hXE] at hE
  have hba : Below w3.heap.size w3 wa := by rw [← hwa]; exact (Below.refl _ _).alloc (Nat.le_refl _) _
  have hLa := hL1.on hba
  have hca := hb1.trans (hba.mono hb1.size)
  rw [hwa, hXE]
  have HE := Lib.hid hE
  have HA := Lib.hid hca
  have HLa := Lib.hid hLa
  clear hev hwa hXE hE hba hL1 hb1 hLa hca
  go_wp2_with fail
  refine (S1.out _ HLa.out).mono ?_
  rintro x w4 ⟨rfl, hb4⟩
  have hL4 := HLa.out.on hb4
  go_wp2_with fail
  refine (S2.out _ hL4).mono ?_
  rintro x w5 ⟨rfl, hb5⟩
  have hL5 := hL4.on hb5
  go_wp2_with fail
  refine (S3.out _ hL5).mono ?_
  rintro x w6 ⟨rfl, hb6⟩
  have hL6 := hL5.on hb6
  have hab := (hb4.trans (hb5.mono hb4.size))
  have habc := hab.trans (hb6.mono hab.size)
  have HB6 := Lib.hid habc
  have HL6 := Lib.hid hL6
  clear hL4 hL5 hL6 hb4 hb5 hb6 hab habc
  go_upto_region 19 with fail
  have q := two_blocks w6 (.cells #[.string LB] 9) (.cells #[.string HB] 9)
  obtain ⟨wB, hwB⟩ : ∃ wB, (w6.alloc (.cells #[.string LB] 9)).alloc (.cells #[.string HB] 9) = wB := ⟨_, rfl⟩
  obtain ⟨X, hX⟩ : ∃ X, w6.heap.size = X := ⟨_, rfl⟩
  rw [hwB, hX] at q
  rw [hwB, hX, show min (-1076 : Int) 0 = -1076 by decide]
  obtain ⟨q1, q2, q3, q4⟩ := q
  have hEb := lt_of_block HE.out
  have hsz := HB6.out.size
  have hCells : ∀ W, Below wB.heap.size wB W → W.cell? ⟨X, 0, none⟩ = some (.string LB) ∧ W.cell? ⟨X + 1, 0, none⟩ = some (.string HB) ∧ W.cell? ⟨XE, 0, none⟩ = some (.bool ev) := fun W hW => by
   refine ⟨at_block ((hW.block X (by omega)).trans q1) 0 _ rfl, at_block ((hW.block (X + 1) (by omega)).trans q2) 0 _ rfl, ?_⟩
   have e1 := (hW.block XE (by omega)).trans ((q3.block XE (by omega)).trans ((HB6.out.block XE hEb).trans HE.out))
   exact at_block e1 0 _ rfl
  have hLB := HL6.out.on (show Below w6.heap.size w6 wB by rw [hX]; exact q3)
  have hcB := (HA.out.trans (HB6.out.mono HA.out.size)).trans (q3.mono (by have := HA.out.size; omega))
  have HC := Lib.hid hCells
  have HLB2 := Lib.hid hLB
  have HCB := Lib.hid hcB
  have HXq := Lib.hid hX
  clear hwB hX q1 q2 q3 q4 hEb hsz hCells hLB hcB
  have RP : ∀ W, Calls Tryz.prog 76 #[.string ⟨#[48]⟩, .int .i64 752] W fun z w' => z = .returned (.string ⟨(repeatL [48] 752).toArray⟩) ∧ Below W.heap.size W w' := fun W => Tryz.strings_Repeat ⟨#[48]⟩ 752 W (by decide) (by decide)
  obtain ⟨ZB, hZB⟩ : ∃ ZB : ByteArray, (⟨(repeatL [48] 752).toArray⟩ : ByteArray) = ZB := ⟨_, rfl⟩
  rw [hZB] at RP
  have RP := Lib.hid RP
  have zs : ZB.size = 752 := by rw [← hZB, str_size, repeatL_length]; rfl
  have HZB := Lib.hid hZB
  clear hZB
  have v2 : VB.extract 0 1 = ⟨#[52]⟩ := by rw [← HT.out.1]; apply ByteArray.ext; simp
  have NF := Lib.hid (fun W => next_four W)
  go_wp2_with fail
  go_loopg [15, 16, 17, 18, 19, 20, 21] 0 (fun _ t15 _ _ _ _ _ _ wx => t15 = .int .i64 1 ∧ wx = wB)
  case atStart => exact ⟨rfl, rfl⟩
  case round =>
   obtain ⟨rfl, hww⟩ := hrel
   subst hww
   obtain ⟨wB, hw2⟩ : ∃ W, W = wr := ⟨_, rfl⟩
   subst hw2
   go_wp2_with fail
   refine (RP.out _).mono ?_
   rintro x w7 ⟨rfl, hb7⟩
   go_upto_region 23 with fail
   obtain ⟨DN, hDN⟩ : ∃ DN : ByteArray, (⟨#[52]⟩ : ByteArray) ++ ZB = DN := ⟨_, rfl⟩
   obtain ⟨UP, hUP⟩ : ∃ UP : ByteArray, (⟨#[53]⟩ : ByteArray) ++ ZB = UP := ⟨_, rfl⟩
   have a1 := fun W => run_string_add_sum (P := Tryz.prog) (w := W) ⟨#[52]⟩ ZB (by rw [zs]; decide)
   have a2 := fun W => run_string_add_sum (P := Tryz.prog) (w := W) ⟨#[53]⟩ ZB (by rw [zs]; decide)
   rw [hDN] at a1
   rw [hUP] at a2
   have hDs : DN.size = 753 := by rw [← hDN, ByteArray.size_append, zs]; rfl
   have hUs : UP.size = 753 := by rw [← hUP, ByteArray.size_append, zs]; rfl
   have hDl : DN.data.toList = 52 :: repeatL [48] 752 := by rw [← hDN, ← HZB.out]; simp
   have hUl : UP.data.toList = 53 :: repeatL [48] 752 := by rw [← hUP, ← HZB.out]; simp
   obtain ⟨t1, t2, t3, t4, t5, t6⟩ := HT.out
   have hLs : LB.size = 753 := by rw [← t2, str_size]; simp [t5]
   have hHs : HB.size = 753 := by rw [← t3, str_size]; simp [t6]
   have hrl : (repeatL [48] 752).length = 752 := by rw [repeatL_length]; rfl
   have i1 : Fl.insideP (ordB DN LB) (ordB DN HB) ev = true := by
    rw [(ord_head hDl (show LB.data.toList = 50 :: 52 :: lo by rw [← t2]) (by rw [hrl]; simp [t5])).2 (by decide), (ord_head hDl (show HB.data.toList = 55 :: 52 :: hi by rw [← t3]) (by rw [hrl]; simp [t6])).1 (by decide)]
    rfl
   have i2 : Fl.insideP (ordB UP LB) (ordB UP HB) ev = true := by
    rw [(ord_head hUl (show LB.data.toList = 50 :: 52 :: lo by rw [← t2]) (by rw [hrl]; simp [t5])).2 (by decide), (ord_head hUl (show HB.data.toList = 55 :: 52 :: hi by rw [← t3]) (by rw [hrl]; simp [t6])).1 (by decide)]
    rfl
   have ID := fun W h => inside_any DN LB HB ev ⟨X, 0, none⟩ ⟨X + 1, 0, none⟩ ⟨XE, 0, none⟩ W (HC.out W h).1 (HC.out W h).2.1 (HC.out W h).2.2 (by omega) (by omega) (by omega)
   have IU := fun W h => inside_any UP LB HB ev ⟨X, 0, none⟩ ⟨X + 1, 0, none⟩ ⟨XE, 0, none⟩ W (HC.out W h).1 (HC.out W h).2.1 (HC.out W h).2.2 (by omega) (by omega) (by omega)
   rw [i1] at ID
   rw [i2] at IU
   have ID := Lib.hid ID
   have IU := Lib.hid IU
   have HUP := Lib.hid (And.intro hUl hUs)
   clear hDN hUP hDs hUs hDl hUl t1 t2 t3 t4 t5 t6 hLs hHs hrl i1 i2
   go_region_held3 (fun W => Below wB.heap.size wB W) ((first | assumption | exact b_drew (by assumption))) (first | (go_at_call 77; refine (NF.out _).mono ?_; rintro x w8 ⟨rfl, hb8⟩; have hb8' := b_trans (by assumption) hb8))
   clear hb7 hb8
   go_wp2_with fail
   refine (ID.out _ hb8').mono ?_
   rintro x w9 ⟨rfl, hb9⟩
   have hb9' := b_trans hb8' hb9
   go_wp2_with fail
   refine (IU.out _ hb9').mono ?_
   rintro x w10 ⟨rfl, hb10⟩
   have hb10' := b_trans hb9' hb10
   clear hb8' hb9 hb9' hb10
   go_upto_region 25 with fail
   obtain ⟨VT, hVT⟩ : ∃ VT, VB.extract 1 753 = VT := ⟨_, rfl⟩
   obtain ⟨Z1, hZ1⟩ : ∃ Z1, ZB.extract 1 752 = Z1 := ⟨_, rfl⟩
   obtain ⟨HF, hHF⟩ : ∃ HF : ByteArray, (⟨#[53]⟩ : ByteArray) ++ Z1 = HF := ⟨_, rfl⟩
   obtain ⟨t1, t2, t3, t4, t5, t6⟩ := HT.out
   have hVl : VT.data.toList = 57 :: v := by
    rw [← hVT, ← t1]
    simp
    exact List.take_of_length_le (by omega)
   have hZl : Z1.data.toList = repeatL [48] 751 := by
    rw [← hZ1, ← HZB.out]
    have e : repeatL [48] 752 = 48 :: repeatL [48] 751 := rfl
    rw [e]
    simp
    exact List.take_of_length_le (by rw [repeatL_length]; decide)
   have hZs : Z1.size = 751 := by
    have h1 : Z1.size = Z1.data.toList.length := by rw [Array.length_toList]; rfl
    rw [h1, hZl, repeatL_length]; rfl
   have hHl : HF.data.toList = 53 :: repeatL [48] 751 := by rw [← hHF]; simp [hZl]
   have a3 := fun W => run_string_add_sum (P := Tryz.prog) (w := W) ⟨#[53]⟩ Z1 (by rw [hZs]; decide)
   rw [hHF] at a3
   have CM := fun W => Tryz.strings_Compare VT HF W
   rw [hVl, hHl, (cmp_head 57 53 v (repeatL [48] 751)).2 (by decide)] at CM
   have CM := Lib.hid CM
   obtain ⟨hUl, hUs⟩ := HUP.out
   have it : itoa (-324) = [45, 51, 50, 52] := by kernel_rfl
   have CA := fun W hW => canonical_any UP ⟨#[53]⟩ (-1076) (-324) W (by omega) (by rw [hUl, Fl.repeat_one, trim_zeros]) (by decide) (by decide) (by rw [hUs]; decide) (by rw [it]; decide) hW
   have e9 : (⟨#[53]⟩ : ByteArray) ++ ⟨#[101]⟩ ++ ⟨(itoa (-324)).toArray⟩ = ⟨#[53, 101, 45, 51, 50, 52]⟩ := by kernel_rfl
   rw [e9] at CA
   have CA := Lib.hid CA
   clear t1 t2 t3 t4 t5 t6 hVl hZl hHl hHF hUl hUs e9 it
   go_region_held3 (fun W => Below wB.heap.size wB W) ((first | assumption | exact b_drew (by assumption))) (first | (go_at_call 78; with_reducible refine (CM.out _).mono ?_; rintro x w8 ⟨rfl, rfl⟩))
   have hbq := b_drew hb10'
   have hLq := HLB2.out.on hbq
   have HBQ := Lib.hid (And.intro (b_trans HCB.out hbq) hLq)
   clear hb10' hbq hLq
   go_wp2_with fail
   refine (CA.out _ HBQ.out.2).mono ?_
   rintro x w11 ⟨rfl, hb11⟩
   go_wp2_with fail
   go_ret2
   exact ⟨rfl, b_trans HBQ.out.1 hb11⟩
theorem below_drewN' {B : Nat} {w w' : World} (h : Below B w w') (n : Nat) : Below B w (w'.drewN n) := by
 obtain ⟨a, b, c, d, e⟩ := h
 exact ⟨a, b, c, d, e⟩
theorem round_any (m c : Nat) (w : World) (h0 : 0 < m) (hm : m < 9007199254740992) (hc : 0 < c) (hc2 : c ≤ 10000) :
 Calls Tryz.prog 68 #[.int .u64 (m : Int), .int .i64 (c : Int)] w fun x w' => x = .returned (.tuple #[.int .u64 (Fl.rnd m c : Nat), .bool (m % 2 ^ c == 0)]) ∧ Below w.heap.size w w' := by
 by_cases hbig : 63 < c
 · have hp : m < 2 ^ (c - 1) := Nat.lt_of_lt_of_le hm (Nat.le_trans (by decide : 9007199254740992 ≤ 2 ^ 63) (Nat.pow_le_pow_right (by decide) (by omega)))
   have e1 : Fl.rnd m c = 0 := Fl.rnd_far hp hc
   have e2 : (m % 2 ^ c == 0) = false := by
    rw [beq_eq_false_iff_ne, Nat.mod_eq_of_lt (Nat.lt_of_lt_of_le hp (Nat.pow_le_pow_right (by decide) (by omega)))]
    omega
   rw [e1, e2]
   have c1 : decide ((63 : Int) < (c : Int)) = true := decide_eq_true (by omega)
   clear hbig hp e1 e2 h0 hm hc hc2
   go_enter Tryz.func68, Tryz.ntmps68
   go_wp2_with fail
   go_ret2
   exact ⟨rfl, Below.refl _ _⟩
 · have c1 : decide ((63 : Int) < (c : Int)) = false := decide_eq_false (by omega)
   obtain ⟨R, hR⟩ : ∃ R, m % 2 ^ c = R := ⟨_, rfl⟩
   obtain ⟨Q, hQ⟩ : ∃ Q, m / 2 ^ c = Q := ⟨_, rfl⟩
   obtain ⟨H, hH⟩ : ∃ H, 2 ^ (c - 1) = H := ⟨_, rfl⟩
   obtain ⟨V, hV⟩ : ∃ V, Fl.rnd m c = V := ⟨_, rfl⟩
   have hVQ : V = Q + (if H < R ∨ (R = H ∧ Q % 2 = 1) then 1 else 0) := by rw [← hV, ← hR, ← hQ, ← hH]; rfl
   rw [hR, hV]
   obtain ⟨P, hP⟩ : ∃ P, 2 ^ c = P := ⟨_, rfl⟩
   have hP0 : 0 < P := by rw [← hP]; exact Nat.two_pow_pos _
   have hPle : P ≤ 9223372036854775808 := by rw [← hP]; exact Nat.le_trans (Nat.pow_le_pow_right (by decide) (show c ≤ 63 by omega)) (by decide)
   have hHP : P = 2 * H := by rw [← hP, ← hH, ← Nat.pow_succ']; congr 1; omega
   have hRm : R < P := by rw [← hR, ← hP]; exact Nat.mod_lt _ (Nat.two_pow_pos _)
   have hQm : Q ≤ m := by rw [← hQ]; exact Nat.div_le_self _ _
   have g0 : ((2 : Int) ^ c) = (P : Int) := by rw [← hP]; simp
   have g1 : (m : Int) / 2 ^ c = (Q : Int) := by rw [g0, ← hQ, hP]; rfl
   have g2 : IntKind.u64.wrap (2 ^ c) = (P : Int) := by rw [g0, IntKind.wrap_u64]; omega
   have g3 : IntKind.u64.wrap ((P : Int) - 1) = ((P - 1 : Nat) : Int) := by rw [IntKind.wrap_u64]; omega
   have g4 : bits .and .u64 (m : Int) ((P - 1 : Nat) : Int) = (R : Int) := by
    have h1 := u64_and_nat m (P - 1) (by omega) (by omega)
    have e : m &&& (P - 1) = R := by rw [← hP, ← hR]; exact Nat.and_two_pow_sub_one_eq_mod m c
    rw [e] at h1
    exact h1
   have g5 : IntKind.u64.wrap (2 ^ (c - 1)) = (H : Int) := by
    have : ((2 : Int) ^ (c - 1)) = (H : Int) := by rw [← hH]; simp
    rw [this, IntKind.wrap_u64]; omega
   have g6 : bits .and .u64 (Q : Int) 1 = ((Q % 2 : Nat) : Int) := by
    have h1 := u64_and_nat Q 1 (by omega) (by decide)
    rw [Nat.and_one_is_mod] at h1
    exact h1
   have g7 : ((R : Int) == 0) = (R == 0) := by
    by_cases h : R = 0
    · rw [h]; rfl
    · rw [show (R == 0) = false by rw [beq_eq_false_iff_ne]; exact h, beq_eq_false_iff_ne]; omega
   have g8 : IntKind.u64.wrap ((Q : Int) + 1) = ((Q + 1 : Nat) : Int) := by rw [IntKind.wrap_u64]; omega
   obtain ⟨Z, hZ⟩ : ∃ Z, (R == 0) = Z := ⟨_, rfl⟩
   rw [hZ] at g7 ⊢
   obtain ⟨P1, hP1⟩ : ∃ P1, P - 1 = P1 := ⟨_, rfl⟩
   obtain ⟨q2, hq2⟩ : ∃ q2, Q % 2 = q2 := ⟨_, rfl⟩
   obtain ⟨Q1, hQ1⟩ : ∃ Q1, Q + 1 = Q1 := ⟨_, rfl⟩
   rw [hP1] at g3 g4
   rw [hq2] at g6 hVQ
   rw [hQ1] at g8
   have hc63 : c ≤ 63 := by omega
   clear hbig hR hQ hH hV g0 hP hZ hP1 hc2 hm hPle hQm hP0 hRm
   by_cases a1 : H < R
   · have c2 : decide (H < R) = true := decide_eq_true (by omega)
     have HV := Lib.hid (show V = Q1 by rw [hVQ, if_pos (.inl a1)]; omega)
     clear hVQ a1 hq2 hQ1 hHP h0
     go_enter Tryz.func68, Tryz.ntmps68
     go_wp2_with fail
     go_quiet (fail)
     go_wp2_with fail
     go_ret2
     exact ⟨by rw [HV.out]; rfl, below_drewN' (Below.refl _ _) _⟩
   · have c2 : decide (H < R) = false := decide_eq_false (by omega)
     by_cases a2 : R = H
     · by_cases a3 : q2 = 1
       · have HV := Lib.hid (show V = Q1 by rw [hVQ, if_pos (.inr ⟨a2, a3⟩)]; omega)
         subst a2
         subst a3
         clear hVQ a1 hQ1 hHP h0
         go_enter Tryz.func68, Tryz.ntmps68
         go_wp2_with fail
         go_quiet (fail)
         go_wp2_with fail
         go_ret2
         exact ⟨by rw [HV.out]; rfl, below_drewN' (Below.refl _ _) _⟩
       · have c4 : ((q2 : Int) == 1) = false := by rw [beq_eq_false_iff_ne]; omega
         have HV := Lib.hid (show V = Q by rw [hVQ, if_neg (by omega)]; omega)
         subst a2
         clear hVQ a1 a3 hq2 hQ1 hHP h0
         go_enter Tryz.func68, Tryz.ntmps68
         go_wp2_with fail
         go_quiet (fail)
         go_wp2_with fail
         go_ret2
         exact ⟨by rw [HV.out]; rfl, below_drewN' (Below.refl _ _) _⟩
     · have c3 : ((R : Int) == (H : Int)) = false := by rw [beq_eq_false_iff_ne]; omega
       have HV := Lib.hid (show V = Q by rw [hVQ, if_neg (by omega)]; omega)
       clear hVQ a1 a2 hq2 hQ1 hHP h0
       go_enter Tryz.func68, Tryz.ntmps68
       go_wp2_with fail
       go_quiet (fail)
       go_wp2_with fail
       go_ret2
       exact ⟨by rw [HV.out]; rfl, below_drewN' (Below.refl _ _) _⟩
theorem box_three (p q r : Int) (w : World) : ∃ (w2 : World) (X : Nat), w.alloc (.cells #[.int .i64 p, .int .i64 q, .int .i64 r] 109) = w2 ∧ w.heap.size = X ∧ Below w.heap.size w w2 ∧
 ∀ W, Below w2.heap.size w2 W → W.cell? ⟨X, 0, none⟩ = some (.int .i64 p) ∧ W.cell? ⟨X, 1, none⟩ = some (.int .i64 q) ∧ W.cell? ⟨X, 2, none⟩ = some (.int .i64 r) ∧ Below w2.heap.size w2 W := by
 refine ⟨_, _, rfl, rfl, (Below.refl _ _).alloc (Nat.le_refl _) _, fun W hW => ?_⟩
 have h := heap_alloc_new w (.cells #[.int .i64 p, .int .i64 q, .int .i64 r] 109)
 have h' := (hW.block w.heap.size (lt_of_block h)).trans h
 exact ⟨at_block h' 0 _ rfl, at_block h' 1 _ rfl, at_block h' 2 _ rfl, hW⟩
theorem or_sign (sg x k : Nat) (hk : k < 64) (hx : x < 2 ^ k) (hs : sg = 0 ∨ sg = 2 ^ k) : bits .or .u64 (sg : Int) (x : Int) = ((sg + x : Nat) : Int) := by
 have hp : 2 ^ k ≤ 2 ^ 63 := Nat.pow_le_pow_right (by decide) (by omega)
 have h63 : (2 : Nat) ^ 63 = 9223372036854775808 := by decide
 have h := u64_or_nat sg x (by omega) (by omega)
 have e : sg ||| x = sg + x := by
  rcases hs with rfl | rfl
  · rw [Nat.zero_or, Nat.zero_add]
  · have := Nat.two_pow_add_eq_or_of_lt hx 1
    rw [Nat.mul_one] at this
    exact this.symm
 rw [e] at h
 exact h
theorem or_bit (F k : Nat) (hk : k < 63) (hF : F < 2 ^ k) : bits .or .u64 (F : Int) ((2 ^ k : Nat) : Int) = ((2 ^ k + F : Nat) : Int) := by
 have hp : 2 ^ k ≤ 2 ^ 62 := Nat.pow_le_pow_right (by decide) (by omega)
 have h62 : (2 : Nat) ^ 62 = 4611686018427387904 := by decide
 have h := u64_or_nat F (2 ^ k) (by omega) (by omega)
 have e : F ||| 2 ^ k = 2 ^ k + F := by
  have := Nat.two_pow_add_eq_or_of_lt hF 1
  rw [Nat.mul_one] at this
  rw [Nat.or_comm]
  exact this.symm
 rw [e] at h
 exact h
theorem cvt_nat (m : Nat) (h0 : 0 < m) (hm : m < 9007199254740992) : floatOfInt FloatKind.f64 (m : Int) = Fl.wordN m := by
 have h := Fl.nearest_nat h0 hm
 change Ieee.double.nearest (decide ((m : Int) < 0)) (m : Int).natAbs 0 = _
 rw [decide_eq_false (by omega), Int.natAbs_natCast]
 exact h
theorem rung_sum {v K K1 u1 Y0 Y1 B b : Nat} (hu : (K = 2 * b ∧ K1 = b ∧ u1 = v + 2) ∨ (K1 = K ∧ u1 = v + 1)) (h0 : u1 * b = Y0) (h1 : Y0 + K1 = Y1) (hB : Y1 - b = B) : v * b + K = B := by
 rcases hu with ⟨rfl, rfl, rfl⟩ | ⟨rfl, rfl⟩
 · rw [Nat.add_mul] at h0
   omega
 · rw [Nat.add_mul] at h0
   omega
theorem binbits16 (b : Nat) (hb : b < 18446744073709551616) (w : World) (h0 : 0 < b % 9223372036854775808) (hr : b % 9223372036854775808 < 9218868437227405312) (hL : Laid w) :
 Calls Tryz.prog 27 #[.string ⟨(Fl.txt b).toArray⟩, .int .i64 16] w fun x w' => x = .returned (.tuple #[.int .u64 (((if 9223372036854775808 ≤ b then 32768 else 0) + Ieee.Format.nearest Fl.half false (Fl.om (b % 9223372036854775808)) (Fl.oe (b % 9223372036854775808)) : Nat) : Int), .bool (Fl.exP Fl.half (Fl.om (b % 9223372036854775808)) (Fl.oe (b % 9223372036854775808))), .int .i64 0]) ∧ Below w.heap.size w w' := by
 have PA := Lib.hid (fun W hW => parse_num b hb W h0 hr hW)
 have OF := Lib.hid (fun W hW => of_16 W hW)
 have SB := Lib.hid (fun W => signbit_any b W hb)
 have II := Lib.hid (fun W => isinf_any b W hb)
 have o1 := ord_self hb
 have o2 := ord_zero hb hr
 obtain ⟨s1, s2, s3, s4⟩ := Fl.om_spec h0
 obtain ⟨b1, b2, b3, b4⟩ := Fl.om_bounds h0 hr
 have SP : ∀ W, Laid W → Calls Tryz.prog 66 #[.float .f64 b] W fun x w' => x = .returned (.tuple #[.int .u64 (Fl.om (b % 9223372036854775808) : Int), .int .i64 (Fl.oe (b % 9223372036854775808))]) ∧ w' = W := fun W hW => split_any b W hb h0 hr hW
 rw [decide_eq_false (by omega)] at o1
 rw [decide_eq_false (by omega)] at o2
 have i0 : (b % 9223372036854775808 == 9218868437227405312) = false := by rw [beq_eq_false_iff_ne]; omega
 rw [i0] at II
 obtain ⟨m, hm⟩ : ∃ m, Fl.om (b % 9223372036854775808) = m := ⟨_, rfl⟩
 obtain ⟨e, he⟩ : ∃ e, Fl.oe (b % 9223372036854775808) = e := ⟨_, rfl⟩
 rw [hm] at s2 s3 s4 b1 b4 SP
 rw [he] at b2 b3 b4 SP
 rw [hm, he]
 have LN : ∀ W, Calls Tryz.prog 67 #[.int .u64 (m : Int)] W fun x w' => x = .returned (.int .i64 ((m.log2 + 1 : Nat) : Int)) ∧ w' = W := fun W => by
  have h := Tryz.bits_Len64 (m : Int) W (by omega) (by omega)
  rw [Int.toNat_natCast, Fl.bitLen_log2 m (by omega) (by omega)] at h
  exact h
 obtain ⟨L, hLL⟩ : ∃ L, m.log2 + 1 = L := ⟨_, rfl⟩
 rw [hLL] at LN
 obtain ⟨U, hU⟩ : ∃ U, Fl.lastP Fl.half m e = U := ⟨_, rfl⟩
 obtain ⟨K, hK⟩ : ∃ K, Fl.keptP Fl.half m e = K := ⟨_, rfl⟩
 obtain ⟨X, hX⟩ : ∃ X, Fl.wholeP Fl.half m e = X := ⟨_, rfl⟩
 obtain ⟨N, hN⟩ : ∃ N, Ieee.Format.nearest Fl.half false m e = N := ⟨_, rfl⟩
 obtain ⟨Z, hZ⟩ : ∃ Z, Fl.exP Fl.half m e = Z := ⟨_, rfl⟩
 obtain ⟨d1, d2, d3, d4, d5⟩ := Fl.half_is
 have hUm : U = max (e + (L : Int) - 11) (-24) := by rw [← hU, ← hLL]; unfold Fl.lastP; rw [d3, d4]; omega
 obtain ⟨p1, p2, p3⟩ := Fl.kept_le Fl.half m e (by omega)
 have ns := Fl.near_small (f := Fl.half) (m := m) (e := e) (by omega) (by rw [d1, d2]; decide)
 have nb := fun B => Fl.near_big (f := Fl.half) (m := m) (e := e) (B := B) (by omega)
 rw [d4, hK] at p1
 rw [d4, hK, hU] at p2
 rw [d4, d3, hK, hU] at p3
 rw [hK, d2, hN, hZ, hX] at ns
 simp only [hK, d1, d2, d3, hU, hN, hZ, hX] at nb
 rw [hN, hZ]
 have hKd : K = if U ≤ e then m * 2 ^ (e - U).toNat else Fl.rnd m (U - e).toNat := by rw [← hK, ← hU]; rfl
 have hXd : X = (decide (U ≤ e) || (m % 2 ^ (U - e).toNat == 0)) := by rw [← hX, ← hU]; rfl
 have HF := Lib.hid (And.intro hUm (And.intro p1 (And.intro p2 (And.intro p3 (And.intro ns nb)))))
 have HK := Lib.hid (And.intro hKd hXd)
 have HB := Lib.hid (And.intro s2 (And.intro s3 (And.intro s4 (And.intro b1 (And.intro b2 (And.intro b3 (And.intro b4 hLL)))))))
 have k2 : IntKind.i64.wrap (e + (L : Int)) = e + (L : Int) := IntWalk.i64_in _ (by omega)
 have k3 : IntKind.i64.wrap (e + (L : Int) - 11) = e + (L : Int) - 11 := IntWalk.i64_in _ (by omega)
 obtain ⟨sb, hsb⟩ : ∃ sb, decide (9223372036854775808 ≤ b) = sb := ⟨_, rfl⟩
 obtain ⟨sg, hsg⟩ : ∃ sg : Nat, (if 9223372036854775808 ≤ b then 32768 else 0) = sg := ⟨_, rfl⟩
 rw [hsb] at SB
 rw [hsg]
 have HSG := Lib.hid (show (sb = true → sg = 32768) ∧ (sb = false → sg = 0) by
  rw [← hsb, ← hsg]
  by_cases h : 9223372036854775808 ≤ b
  · rw [if_pos h, decide_eq_true h]; exact ⟨fun _ => rfl, fun h => (nomatch h)⟩
  · rw [if_neg h, decide_eq_false h]; exact ⟨fun h => (nomatch h), fun _ => rfl⟩)
 have SP := Lib.hid SP
 have LN := Lib.hid LN
 have HL := Lib.hid hL
 clear hm he hL i0 h0 hr s1 s2 s3 s4 b1 b2 b3 b4 hLL hU hK hX hN hZ d1 d2 d3 d4 d5 hUm p1 p2 p3 ns nb hKd hXd hsb hsg hb
 go_enter Tryz.func27, Tryz.ntmps27
 go_wp2_with fail
 refine (PA.out _ HL.out).mono ?_
 rintro x w1 ⟨rfl, hb1⟩
 go_wp2_with fail
 have hL1 := HL.out.on hb1
 refine (OF.out _ hL1).mono ?_
 rintro x w2 ⟨rfl, hb2⟩
 go_upto_region 5 with fail
 obtain ⟨w3, Y, hw3, hY, hb3, hcells⟩ := box_three 16 11 (-24) w2
 rw [hw3, hY]
 have hc12 := hb1.trans (hb2.mono hb1.size)
 have hc13 := hc12.trans (hb3.mono hc12.size)
 have hL3 := (hL1.on hb2).on hb3
 obtain ⟨x0, x1, x2, hd3⟩ := hcells w3 (Below.refl _ _)
 have HC := Lib.hid hcells
 have HL3 := Lib.hid hL3
 have HB3 := Lib.hid hc13
 clear hcells hw3 hY hb1 hb2 hb3 hc12 hc13 hL1 hL3
 go_wp2_with fail
 refine (SB.out _).mono ?_
 rintro x w4 ⟨rfl, rfl⟩
 go_upto_if 52 with fail
 go_cut [12] (fun s wx => s = .int .u64 (sg : Int) ∧ wx = w4)
 case first =>
  cases sb with
  | true =>
    have E := Lib.hid (HSG.out.1 rfl)
    go_wp2_with fail
    go_meet
    exact ⟨by rw [E.out]; rfl, rfl⟩
  | false =>
    have E := Lib.hid (HSG.out.2 rfl)
    go_wp2_with fail
    go_meet
    exact ⟨by rw [E.out]; rfl, rfl⟩
 case rest =>
  obtain ⟨rfl, hw⟩ := hcut
  subst hw
  obtain ⟨w3, hw3⟩ : ∃ W, W = wc := ⟨_, rfl⟩
  subst hw3
  go_wp2_with fail
  refine (II.out _).mono ?_
  rintro x w4 ⟨rfl, rfl⟩
  go_wp2_with fail
  refine (SP.out _ HL3.out).mono ?_
  rintro x w5 ⟨rfl, rfl⟩
  go_upto_region 19 with fail
  go_region_held3 (fun W => W.cell? ⟨Y, 0, none⟩ = some (.int .i64 16) ∧ W.cell? ⟨Y, 1, none⟩ = some (.int .i64 11) ∧ W.cell? ⟨Y, 2, none⟩ = some (.int .i64 (-24)) ∧ Below w5.heap.size w5 W)
   ((refine HC.out _ ?_; first | assumption | exact b_drew hd3 | exact b_drew (by assumption)))
   (first | (go_at_call 67; refine (LN.out _).mono ?_; rintro x w6 ⟨rfl, rfl⟩))
  rw [← HF.out.1]
  obtain ⟨ub, hub⟩ : ∃ ub, decide (U ≤ e) = ub := ⟨_, rfl⟩
  go_upto_if 82 with fail
  go_cut [13, 16] (fun s13 s16 wx => s13 = .int .u64 (K : Int) ∧ s16 = .bool X ∧ Below w5.heap.size w5 wx)
  case first =>
   obtain ⟨r1, r2, r3, r4, r5, r6, r7, r8⟩ := HB.out
   obtain ⟨f1, f2, f3, f4, _, _⟩ := HF.out
   have hKX := HK.out
   cases ub with
   | true =>
     have hUe : U ≤ e := of_decide_eq_true hub
     obtain ⟨d, hd⟩ : ∃ d : Nat, (e - U).toNat = d := ⟨_, rfl⟩
     have hK' : K = m * 2 ^ d := by rw [hKX.1, if_pos hUe, hd]
     have hK2 := f3 hUe
     have q1 : IntKind.i64.wrap (e - U) = (d : Int) := by rw [show e - U = (d : Int) by omega]; exact IntWalk.i64_in _ (by omega)
     have q2 : IntKind.u64.wrap ((m : Int) * 2 ^ d) = (K : Int) := by
      have h : (m : Int) * 2 ^ d = (K : Int) := by rw [hK']; simp
      rw [h, IntKind.wrap_u64]; omega
     have q3 : min d 64 = d := by omega
     have E := Lib.hid (show X = true by rw [hKX.2, decide_eq_true hUe]; rfl)
     clear hUe hd hK' hK2 r1 r2 r3 r4 r5 r6 r7 r8 f1 f2 f3 f4 hKX
     go_wp2_with fail
     go_meet
     exact ⟨rfl, by rw [E.out], b_drew hd3⟩
   | false =>
     have hUe : ¬ U ≤ e := of_decide_eq_false hub
     obtain ⟨c, hc⟩ : ∃ c : Nat, (U - e).toNat = c := ⟨_, rfl⟩
     have RN := Lib.hid (fun W => round_any m c W (by omega) (by omega) (by omega) (by omega))
     have hX' : X = (m % 2 ^ c == 0) := by rw [hKX.2, decide_eq_false hUe, hc]; rfl
     have hK' : Fl.rnd m c = K := by rw [hKX.1, if_neg hUe, hc]
     rw [hK', ← hX'] at RN
     have q1 : IntKind.i64.wrap (U - e) = (c : Int) := by rw [show U - e = (c : Int) by omega]; exact IntWalk.i64_in _ (by omega)
     clear hUe hc hX' hK' r1 r2 r3 r4 r5 r6 r7 r8 f1 f2 f3 f4 hKX
     go_wp2_with fail
     refine (RN.out _).mono ?_
     rintro x w7 ⟨rfl, hb7⟩
     go_wp2_with fail
     go_meet
     exact ⟨rfl, rfl, (b_drew hd3).trans hb7⟩
  case rest =>
   obtain ⟨rfl, rfl, hbx⟩ := hcut
   obtain ⟨y0, y1, y2, _⟩ := HC.out _ hbx
   have hbE := HB3.out.trans (hbx.mono HB3.out.size)
   have HBE := Lib.hid hbE
   clear hbx hbE x0 x1 x2
   obtain ⟨kb, hkb⟩ : ∃ kb, ((K : Int) == 2048) = kb := ⟨_, rfl⟩
   obtain ⟨K1, hK1⟩ : ∃ K1, (if K = 2048 then 1024 else K) = K1 := ⟨_, rfl⟩
   obtain ⟨U1, hU1⟩ : ∃ U1, (if K = 2048 then U + 1 else U) = U1 := ⟨_, rfl⟩
   go_upto_if 100 with fail
   go_cut [13, 15] (fun s13 s15 wx => s13 = .int .u64 (K1 : Int) ∧ s15 = .int .i64 U1 ∧ wx = wc)
   case first =>
    obtain ⟨r1, r2, r3, r4, r5, r6, r7, r8⟩ := HB.out
    obtain ⟨f1, f2, f3, f4, _, _⟩ := HF.out
    cases kb with
    | true =>
      have hKe : K = 2048 := by have := eq_of_beq hkb; omega
      subst hKe
      have E1 := Lib.hid (show K1 = 1024 by rw [← hK1, if_pos rfl])
      have E2 := Lib.hid (show U1 = U + 1 by rw [← hU1, if_pos rfl])
      have q1 : IntKind.i64.wrap (U + 1) = U + 1 := IntWalk.i64_in _ (by omega)
      clear hK1 hU1 r1 r2 r3 r4 r5 r6 r7 r8 f1 f2 f3 f4 hkb
      go_wp2_with fail
      go_meet
      exact ⟨by rw [E1.out]; rfl, by rw [E2.out], rfl⟩
    | false =>
      have hKe : K ≠ 2048 := by intro h; rw [h] at hkb; exact absurd hkb (by decide)
      have E1 := Lib.hid (show K1 = K by rw [← hK1, if_neg hKe])
      have E2 := Lib.hid (show U1 = U by rw [← hU1, if_neg hKe])
      clear hK1 hU1 r1 r2 r3 r4 r5 r6 r7 r8 f1 f2 f3 f4 hKe
      go_wp2_with fail
      go_meet
      exact ⟨by rw [E1.out], by rw [E2.out], rfl⟩
   case rest =>
    obtain ⟨rfl, rfl, hwE⟩ := hcut
    subst hwE
    obtain ⟨wE, hwE⟩ : ∃ W, W = wc := ⟨_, rfl⟩
    subst hwE
    obtain ⟨r1, r2, r3, r4, r5, r6, r7, r8⟩ := HB.out
    obtain ⟨f1, f2, f3, f4, f5, f6⟩ := HF.out
    have hsgc : sg = 0 ∨ sg = 32768 := by
     cases sb
     · exact .inl (HSG.out.2 rfl)
     · exact .inr (HSG.out.1 rfl)
    have orS : ∀ x : Nat, x < 32768 → bits .or .u64 (sg : Int) (x : Int) = ((sg + x : Nat) : Int) := fun x hx => or_sign sg x 15 (by decide) hx hsgc
    by_cases hsm : K < 1024
    · have g1 : K1 = K := by rw [← hK1, if_neg (by omega)]
      have c5 : decide (K1 < 1024) = true := decide_eq_true (by omega)
      have c6 : decide ((K1 : Int) < 1024) = true := decide_eq_true (by omega)
      have o5 := orS K1 (by omega)
      obtain ⟨n1, n2⟩ := f5 hsm
      obtain ⟨Y1, hY1⟩ : ∃ Y1, sg + K1 = Y1 := ⟨_, rfl⟩
      rw [hY1] at o5
      have E1 := Lib.hid (show sg + N = Y1 by omega)
      have E2 := Lib.hid n2
      clear hK1 hU1 hkb r1 r2 r3 r4 r5 r6 r7 r8 f1 f2 f3 f4 f5 f6 hsgc orS hsm g1 n1 n2 hY1
      go_wp2_with fail
      refine bodyPost_ret (v := .tuple #[.int .u64 (Y1 : Int), .bool X, .int .i64 0]) (by simp [results, Tryz.results27, go_sem]) rfl ?_
      exact ⟨by rw [E1.out, E2.out], HBE.out⟩
    · have hK1b : 1024 ≤ K1 ∧ K1 < 2048 := by rw [← hK1]; split <;> omega
      obtain ⟨u1, hu1⟩ : ∃ u1 : Nat, U1 + 24 + 1 = (u1 : Int) := ⟨(U1 + 24 + 1).toNat, by rw [← hU1]; split <;> omega⟩
      have hu1b : u1 ≤ 2200 := by rw [← hU1] at hu1; split at hu1 <;> omega
      obtain ⟨Y0, hY0⟩ : ∃ Y0, u1 * 1024 = Y0 := ⟨_, rfl⟩
      obtain ⟨Y1, hY1⟩ : ∃ Y1, Y0 + K1 = Y1 := ⟨_, rfl⟩
      obtain ⟨B, hB⟩ : ∃ B, Y1 - 1024 = B := ⟨_, rfl⟩
      have hBf : (U - -24).toNat * 1024 + K = B := by
       obtain ⟨v, hv⟩ : ∃ v, (U - -24).toNat = v := ⟨_, rfl⟩
       rw [hv]
       refine rung_sum ?_ hY0 hY1 hB
       by_cases hKe : K = 2048
       · rw [if_pos hKe] at hK1 hU1
         exact .inl ⟨hKe, hK1.symm, by clear hY0 hY1 hB f5 f6; omega⟩
       · rw [if_neg hKe] at hK1 hU1
         exact .inr ⟨hK1.symm, by clear hY0 hY1 hB f5 f6; omega⟩
      have hfit : u1 ≤ 2047 ∨ 16 < 64 := by
       first
       | exact .inr (by decide)
       | (left; rw [← hU1] at hu1; split at hu1 <;> omega)
      have c5 : decide (K1 < 1024) = false := decide_eq_false (by omega)
      have c6 : decide ((K1 : Int) < 1024) = false := decide_eq_false (by omega)
      have m1 : IntKind.i64.wrap (U1 + 24) = U1 + 24 := IntWalk.i64_in _ (by omega)
      have m2 : IntKind.i64.wrap (U1 + 24 + 1) = (u1 : Int) := by rw [hu1]; exact IntWalk.i64_in _ (by omega)
      have m3 : IntKind.u64.wrap (u1 : Int) = (u1 : Int) := by rw [IntKind.wrap_u64]; omega
      have m4 : IntKind.u64.wrap ((u1 : Int) * 1024) = (Y0 : Int) := by rw [IntKind.wrap_u64]; omega
      have m5 : IntKind.u64.wrap (Y0 : Int) = (Y0 : Int) := by rw [IntKind.wrap_u64]; omega
      have m6 : IntKind.u64.wrap ((Y0 : Int) + (K1 : Int)) = (Y1 : Int) := by rw [IntKind.wrap_u64]; omega
      have m7 : IntKind.u64.wrap ((Y1 : Int) - 1024) = (B : Int) := by rw [IntKind.wrap_u64]; omega
      have n0 := f6 B hBf
      by_cases hbig : 31744 ≤ B
      · obtain ⟨n1, n2⟩ := n0.1 hbig
        have c7 : decide (31744 ≤ B) = true := decide_eq_true (by omega)
        have c8 : decide ((31744 : Int) ≤ (B : Int)) = true := decide_eq_true (by omega)
        have o5 := orS 31744 (by decide)
        obtain ⟨Y2, hY2⟩ : ∃ Y2, sg + 31744 = Y2 := ⟨_, rfl⟩
        rw [hY2] at o5
        have o6 : bits .or .u64 (sg : Int) 31744 = (Y2 : Int) := o5
        have E1 := Lib.hid (show sg + N = Y2 by omega)
        have E2 := Lib.hid n2
        clear hK1 hU1 hkb r1 r2 r3 r4 r5 r6 r7 r8 f1 f2 f3 f4 f5 f6 hsgc orS hsm hK1b hu1 hu1b hY0 hY1 hB hBf hfit n0 n1 n2 hbig hY2 o5
        go_wp2_with fail
        go_quiet (fail)
        go_wp2_with fail
        refine bodyPost_ret (v := .tuple #[.int .u64 (Y2 : Int), .bool false, .int .i64 0]) (by simp [results, Tryz.results27, go_sem]) rfl ?_
        exact ⟨by rw [E1.out, E2.out], below_drewN HBE.out _⟩
      · obtain ⟨n1, n2⟩ := n0.2 (by omega)
        have c7 : decide (31744 ≤ B) = false := decide_eq_false (by omega)
        have c8 : decide ((31744 : Int) ≤ (B : Int)) = false := decide_eq_false (by omega)
        have o5 := orS B (by omega)
        obtain ⟨Y2, hY2⟩ : ∃ Y2, sg + B = Y2 := ⟨_, rfl⟩
        rw [hY2] at o5
        have E1 := Lib.hid (show sg + N = Y2 by omega)
        have E2 := Lib.hid n2
        clear hK1 hU1 hkb r1 r2 r3 r4 r5 r6 r7 r8 f1 f2 f3 f4 f5 f6 hsgc orS hsm hK1b hu1 hu1b hY0 hY1 hB hBf hfit n0 n1 n2 hbig hY2
        go_wp2_with fail
        go_quiet (fail)
        go_wp2_with fail
        refine bodyPost_ret (v := .tuple #[.int .u64 (Y2 : Int), .bool X, .int .i64 0]) (by simp [results, Tryz.results27, go_sem]) rfl ?_
        exact ⟨by rw [E1.out, E2.out], below_drewN HBE.out _⟩
end Go.Proofs.YtjapgpmoojfhnaaGreatDoor
