/- The library's exact road: the walks at a power of ten. The library's exact road: great powers of ten, and the whole of it. atof64 at the text of a decimal whose digits all fit the mantissa. atof64 at the text of a decimal whose digits do not all fit the mantissa, where both neighbours have one nearest number. special at the text of a decimal. ParseFloat, over what atof64 .. -/
import Derived.Test.YtjapgpmoojfhnaaGreatDoorB09
import Derived.Test.YtjapgpmoojfhnaaGreatDoorB22
import Derived.Test.YtjapgpmoojfhnaaGreatDoorB23
import Derived.Test.YtjapgpmoojfhnaaGreatDoorB25
set_option maxHeartbeats 16000000
set_option maxRecDepth 100000
set_option linter.unusedSimpArgs false
set_option linter.unusedVariables false
namespace Go.Proofs.YtjapgpmoojfhnaaGreatDoor
open Go.RowKit Go.Lib
theorem word_f (R : Nat) : Ieee.double.word false R = R := Fl.word_false _ _
theorem vnd_pos (d k : Nat) : Fl.vN d (k : Int) = d * 10 ^ k * 2 ^ 1074 ∧ Fl.vD (k : Int) = 1 := by
 unfold Fl.vN Fl.vD
 rw [if_pos (Int.natCast_nonneg k), if_pos (Int.natCast_nonneg k), Int.toNat_natCast]
 exact ⟨rfl, rfl⟩
theorem vnd_neg (d k : Nat) (hk : 0 < k) : Fl.vN d (-(k : Int)) = d * 2 ^ 1074 ∧ Fl.vD (-(k : Int)) = 10 ^ k := by
 unfold Fl.vN Fl.vD
 rw [if_neg (by omega), if_neg (by omega), Int.neg_neg, Int.toNat_natCast]
 exact ⟨rfl, rfl⟩
theorem exact_small (d k : Nat) (h0 : 0 < d) (hd : d < 4503599627370496) (hk0 : 0 < k) (hk : k ≤ 22) (g : Bool) (w : World) (B : Nat × Nat) (hT : TenPow w B) : Calls Tryz.prog 199 #[.int .u64 (d : Int), .int .i64 (k : Int), .bool g] w (ExactS d (k : Int) g w) := by
 have e0 := hT.info
 have e1 := hT.ptr
 have f1 : (d : Int) / 4503599627370496 = 0 := by omega
 have cv := cvt_nat d h0 (by omega)
 obtain ⟨v0, v1, v2⟩ := Fl.wordN_rung h0 (by omega : d < 9007199254740992)
 obtain ⟨R, hR⟩ : ∃ R, Fl.wordN d = R := ⟨_, rfl⟩
 rw [hR] at cv v0 v1 v2
 have ng := fun W => run_neg64 (R := R) (by omega) W
 obtain ⟨t0, t1, t2⟩ := Fl.ten_val (k := k) (by omega)
 have e2 := hT.row k (by omega)
 obtain ⟨T, hTT⟩ : ∃ T, Fl.tenW.getD k 0 = T := ⟨_, rfl⟩
 rw [hTT] at e2 t0 t1 t2
 have near := Fl.mulR_near v0 t0 v1 t1
 have ml := mulw g v2 t2
 have c1 := gtf g (R := R) (by omega)
 have c2 := ltf g (R := R) (by omega)
 obtain ⟨M, hM⟩ : ∃ M, Fl.mulR R T = M := ⟨_, rfl⟩
 rw [hM] at near ml
 rw [← (vnd_pos d k).1, ← (vnd_pos d k).2] at near
 obtain ⟨F, hF⟩ : ∃ F, Ieee.double.word g R = F := ⟨_, rfl⟩
 obtain ⟨Y, hY⟩ : ∃ Y, Ieee.double.word g M = Y := ⟨_, rfl⟩
 rw [hY, hF] at ml
 rw [hF] at c1 c2
 have mm := fun W => run_float_arith (P := Tryz.prog) W .mul 57 .f64 F T Y ml
 have NR := Lib.hid near
 have HY := Lib.hid hY
 have k1 : ((k : Int) == 0) = false := by rw [beq_eq_false_iff_ne]; omega
 have k2 : decide (0 < (k : Int)) = true := decide_eq_true (by omega)
 have k3 : decide ((k : Int) ≤ 37) = true := decide_eq_true (by omega)
 have k4 : decide (22 < (k : Int)) = false := decide_eq_false (by omega)
 have k5 : k < 23 := by omega
 have k2' : decide (0 < k) = true := decide_eq_true hk0
 have k3' : decide (k ≤ 37) = true := decide_eq_true (by omega)
 have k4' : decide (22 < k) = false := decide_eq_false (by omega)
 obtain ⟨Z, hZ⟩ : ∃ Z, decide (4831355200913801216 < R) = Z := ⟨_, rfl⟩
 rw [hZ] at c1 c2
 clear hZ hM hTT hY hT near ml t0 t1 t2 v0 v1 v2 hd h0 hR
 cases g
 · rw [word_f] at hF
   subst hF
   cases Z
   · go_enter Tryz.func199, Tryz.ntmps199
     go_wp2_with fail
     go_ret2
     exact ⟨Y, true, rfl, rfl, fun _ => ⟨M, NR.out, HY.out.symm⟩⟩
   · go_enter Tryz.func199, Tryz.ntmps199
     go_wp2_with fail
     go_ret2
     exact ⟨_, false, rfl, rfl, fun h => by cases h⟩
 · rw [hF] at ng
   clear hF
   cases Z
   · go_enter Tryz.func199, Tryz.ntmps199
     go_wp2_with fail
     go_ret2
     exact ⟨Y, true, rfl, rfl, fun _ => ⟨M, NR.out, HY.out.symm⟩⟩
   · go_enter Tryz.func199, Tryz.ntmps199
     go_wp2_with fail
     go_ret2
     exact ⟨_, false, rfl, rfl, fun h => by cases h⟩
theorem exact_neg (d k : Nat) (h0 : 0 < d) (hd : d < 4503599627370496) (hk0 : 0 < k) (hk : k ≤ 22) (g : Bool) (w : World) (B : Nat × Nat) (hT : TenPow w B) : Calls Tryz.prog 199 #[.int .u64 (d : Int), .int .i64 (-(k : Int)), .bool g] w (ExactS d (-(k : Int)) g w) := by
 have e0 := hT.info
 have e1 := hT.ptr
 have f1 : (d : Int) / 4503599627370496 = 0 := by omega
 have cv := cvt_nat d h0 (by omega)
 obtain ⟨v0, v1, v2⟩ := Fl.wordN_rung h0 (by omega : d < 9007199254740992)
 obtain ⟨R, hR⟩ : ∃ R, Fl.wordN d = R := ⟨_, rfl⟩
 rw [hR] at cv v0 v1 v2
 have ng := fun W => run_neg64 (R := R) (by omega) W
 obtain ⟨t0, t1, t2⟩ := Fl.ten_val (k := k) (by omega)
 have e2 := hT.row k (by omega)
 obtain ⟨T, hTT⟩ : ∃ T, Fl.tenW.getD k 0 = T := ⟨_, rfl⟩
 rw [hTT] at e2 t0 t1 t2
 have near := Fl.divR_near v0 t0 v1 t1 (Nat.pow_pos (by omega))
 have ml := divw g v2 t2 t1
 obtain ⟨M, hM⟩ : ∃ M, Fl.divR R T = M := ⟨_, rfl⟩
 rw [hM] at near ml
 rw [← (vnd_neg d k hk0).1, ← (vnd_neg d k hk0).2] at near
 obtain ⟨F, hF⟩ : ∃ F, Ieee.double.word g R = F := ⟨_, rfl⟩
 obtain ⟨Y, hY⟩ : ∃ Y, Ieee.double.word g M = Y := ⟨_, rfl⟩
 rw [hY, hF] at ml
 have mm := fun W => run_float_arith (P := Tryz.prog) W .quo 57 .f64 F T Y ml
 have NR := Lib.hid near
 have HY := Lib.hid hY
 obtain ⟨p, hp⟩ : ∃ p : Int, -(k : Int) = p := ⟨_, rfl⟩
 rw [hp] at NR ⊢
 have k1 : (p == 0) = false := by rw [beq_eq_false_iff_ne]; omega
 have k2 : decide (0 < p) = false := decide_eq_false (by omega)
 have k3 : decide (p < 0) = true := decide_eq_true (by omega)
 have k4 : decide (-22 ≤ p) = true := decide_eq_true (by omega)
 have k6 : IntKind.i64.wrap (-p) = (k : Int) := by rw [IntKind.wrap_i64]; omega
 have k7 : IntKind.i64.wrap (0 - p) = (k : Int) := by rw [IntKind.wrap_i64]; omega
 have k5 : k < 23 := by omega
 clear hp hM hTT hY hT near ml t0 t1 t2 v0 v1 v2 hd h0 hR
 cases g
 · rw [word_f] at hF
   subst hF
   go_enter Tryz.func199, Tryz.ntmps199
   go_wp2_with fail
   go_ret2
   exact ⟨Y, true, rfl, rfl, fun _ => ⟨M, NR.out, HY.out.symm⟩⟩
 · rw [hF] at ng
   clear hF
   go_enter Tryz.func199, Tryz.ntmps199
   go_wp2_with fail
   go_ret2
   exact ⟨Y, true, rfl, rfl, fun _ => ⟨M, NR.out, HY.out.symm⟩⟩
theorem ten_split {d k : Nat} (h : 22 < k) : d * 10 ^ (k - 22) * 10 ^ 22 * 2 ^ 1074 = d * 10 ^ k * 2 ^ 1074 := by
 rw [Nat.mul_assoc d, ← Nat.pow_add, show k - 22 + 22 = k by omega]
theorem exact_big (d k : Nat) (h0 : 0 < d) (hd : d < 4503599627370496) (hk0 : 22 < k) (hk : k ≤ 37) (g : Bool) (w : World) (B : Nat × Nat) (hT : TenPow w B) : Calls Tryz.prog 199 #[.int .u64 (d : Int), .int .i64 (k : Int), .bool g] w (ExactS d (k : Int) g w) := by
 have e0 := hT.info
 have e1 := hT.ptr
 have f1 : (d : Int) / 4503599627370496 = 0 := by omega
 have cv := cvt_nat d h0 (by omega)
 obtain ⟨v0, v1, v2⟩ := Fl.wordN_rung h0 (by omega : d < 9007199254740992)
 obtain ⟨R, hR⟩ : ∃ R, Fl.wordN d = R := ⟨_, rfl⟩
 rw [hR] at cv v0 v1 v2
 have ng := fun W => run_neg64 (R := R) (by omega) W
 obtain ⟨t0, t1, t2⟩ := Fl.ten_val (k := k - 22) (by omega)
 have e2 := hT.row (k - 22) (by omega)
 obtain ⟨T, hTT⟩ : ∃ T, Fl.tenW.getD (k - 22) 0 = T := ⟨_, rfl⟩
 rw [hTT] at e2 t0 t1 t2
 have ten_split := ten_split (d := d) hk0
 obtain ⟨s0, s1, s2⟩ := Fl.ten_val (k := 22) (by omega)
 have e3 := hT.row 22 (by omega)
 obtain ⟨S, hSS⟩ : ∃ S, Fl.tenW.getD 22 0 = S := ⟨_, rfl⟩
 rw [hSS] at e3 s0 s1 s2
 have near1 := Fl.mulR_near v0 t0 v1 t1
 have ml1 := mulw g v2 t2
 obtain ⟨N, hN⟩ : ∃ N, Fl.mulR R T = N := ⟨_, rfl⟩
 rw [hN] at near1 ml1
 have c1 := gtf g (R := N) near1.1
 have c2 := ltf g (R := N) near1.1
 have near : N ≤ 4831355200913801216 → Fl.Near (Fl.vN d k) (Fl.vD k) (Fl.mulR N S) := fun hle => by
  obtain ⟨a, b⟩ := Fl.whole_le (Nat.mul_pos h0 (Nat.pow_pos (by omega))) near1 hle
  have := Fl.mulR_near a s0 b s1
  rw [ten_split, ← (vnd_pos d k).1, ← (vnd_pos d k).2] at this
  exact this
 have ml : N ≤ 4831355200913801216 → Ieee.double.mul (Ieee.double.word g N) S = some (Ieee.double.word g (Fl.mulR N S)) := fun hle => mulw g (by omega) s2
 obtain ⟨M, hM⟩ : ∃ M, Fl.mulR N S = M := ⟨_, rfl⟩
 rw [hM] at near ml
 obtain ⟨F, hF⟩ : ∃ F, Ieee.double.word g R = F := ⟨_, rfl⟩
 obtain ⟨G, hG⟩ : ∃ G, Ieee.double.word g N = G := ⟨_, rfl⟩
 obtain ⟨Y, hY⟩ : ∃ Y, Ieee.double.word g M = Y := ⟨_, rfl⟩
 rw [hG, hF] at ml1
 rw [hY, hG] at ml
 rw [hG] at c1 c2
 have mm1 := fun W => run_float_arith (P := Tryz.prog) W .mul 57 .f64 F T G ml1
 have NR := Lib.hid near
 have HY := Lib.hid hY
 have k1 : ((k : Int) == 0) = false := by rw [beq_eq_false_iff_ne]; omega
 have k2 : decide (0 < (k : Int)) = true := decide_eq_true (by omega)
 have k3 : decide ((k : Int) ≤ 37) = true := decide_eq_true (by omega)
 have k4 : decide (22 < (k : Int)) = true := decide_eq_true (by omega)
 have k2' : decide (0 < k) = true := decide_eq_true (by omega)
 have k3' : decide (k ≤ 37) = true := decide_eq_true (by omega)
 have k4' : decide (22 < k) = true := decide_eq_true (by omega)
 obtain ⟨j, hj⟩ : ∃ j, k - 22 = j := ⟨_, rfl⟩
 rw [hj] at e2
 have k5 : IntKind.i64.wrap ((k : Int) - 22) = (j : Int) := by rw [IntKind.wrap_i64]; omega
 have k5' : wrap64 ((k : Int) - 22) = (j : Int) := by unfold wrap64; omega
 have k6 : j < 23 := by omega
 obtain ⟨Z, hZ⟩ : ∃ Z, decide (4831355200913801216 < N) = Z := ⟨_, rfl⟩
 rw [hZ] at c1 c2
 have mm := fun (h : Z = false) W => run_float_arith (P := Tryz.prog) W .mul 57 .f64 G S Y (ml (by rw [h] at hZ; have := of_decide_eq_false hZ; omega))
 have hZ' : Z = false → N ≤ 4831355200913801216 := fun h => by rw [h] at hZ; have := of_decide_eq_false hZ; omega
 have HZ := Lib.hid hZ'
 clear hZ hZ' hM hTT hY hT near ml near1 ml1 t0 t1 t2 s0 s1 s2 v0 v1 v2 hd h0 hR hj hN hG hSS ten_split
 cases Z
 · have mm := mm rfl
   cases g
   · rw [word_f] at hF
     subst hF
     go_enter Tryz.func199, Tryz.ntmps199
     go_wp2_with fail
     go_ret2
     exact ⟨Y, true, rfl, rfl, fun _ => ⟨M, NR.out (HZ.out trivial), HY.out.symm⟩⟩
   · rw [hF] at ng
     clear hF
     go_enter Tryz.func199, Tryz.ntmps199
     go_wp2_with fail
     go_ret2
     exact ⟨Y, true, rfl, rfl, fun _ => ⟨M, NR.out (HZ.out trivial), HY.out.symm⟩⟩
 · clear mm
   cases g
   · rw [word_f] at hF
     subst hF
     go_enter Tryz.func199, Tryz.ntmps199
     go_wp2_with fail
     go_ret2
     exact ⟨_, false, rfl, rfl, fun h => by cases h⟩
   · rw [hF] at ng
     clear hF
     go_enter Tryz.func199, Tryz.ntmps199
     go_wp2_with fail
     go_ret2
     exact ⟨_, false, rfl, rfl, fun h => by cases h⟩
theorem exact_out (d : Nat) (p : Int) (h0 : 0 < d) (hd : d < 4503599627370496) (hp : p < -22 ∨ 37 < p) (g : Bool) (w : World) (B : Nat × Nat) (hT : TenPow w B) : Calls Tryz.prog 199 #[.int .u64 (d : Int), .int .i64 p, .bool g] w (ExactS d p g w) := by
 have e0 := hT.info
 have f1 : (d : Int) / 4503599627370496 = 0 := by omega
 have cv := cvt_nat d h0 (by omega)
 obtain ⟨v0, v1, v2⟩ := Fl.wordN_rung h0 (by omega : d < 9007199254740992)
 obtain ⟨R, hR⟩ : ∃ R, Fl.wordN d = R := ⟨_, rfl⟩
 rw [hR] at cv v0 v1 v2
 have ng := fun W => run_neg64 (R := R) (by omega) W
 obtain ⟨F, hF⟩ : ∃ F, Ieee.double.word true R = F := ⟨_, rfl⟩
 rw [hF] at ng
 have k1 : (p == 0) = false := by rw [beq_eq_false_iff_ne]; omega
 clear v0 v1 v2 hT hd h0 hR hF
 rcases hp with hp | hp
 · have k2 : decide (0 < p) = false := decide_eq_false (by omega)
   have k3 : decide (p < 0) = true := decide_eq_true (by omega)
   have k4 : decide (-22 ≤ p) = false := decide_eq_false (by omega)
   clear hp
   cases g
   · go_enter Tryz.func199, Tryz.ntmps199
     go_wp2_with fail
     go_ret2
     exact ⟨_, false, rfl, rfl, fun h => by cases h⟩
   · go_enter Tryz.func199, Tryz.ntmps199
     go_wp2_with fail
     go_ret2
     exact ⟨_, false, rfl, rfl, fun h => by cases h⟩
 · have k2 : decide (0 < p) = true := decide_eq_true (by omega)
   have k3 : decide (p < 0) = false := decide_eq_false (by omega)
   have k4 : decide (p ≤ 37) = false := decide_eq_false (by omega)
   clear hp
   cases g
   · go_enter Tryz.func199, Tryz.ntmps199
     go_wp2_with fail
     go_ret2
     exact ⟨_, false, rfl, rfl, fun h => by cases h⟩
   · go_enter Tryz.func199, Tryz.ntmps199
     go_wp2_with fail
     go_ret2
     exact ⟨_, false, rfl, rfl, fun h => by cases h⟩
theorem exact_any (d : Nat) (p : Int) (g : Bool) (h0 : 0 < d) (hd : d < 18446744073709551616) (w : World) (B : Nat × Nat) (hT : TenPow w B) : Calls Tryz.prog 199 #[.int .u64 (d : Int), .int .i64 p, .bool g] w (ExactS d p g w) := by
 rcases Nat.lt_or_ge d 4503599627370496 with h | h
 · by_cases hz : p = 0
   · subst hz
     exact exact_zero d g h0 h w B hT
   by_cases ho : p < -22 ∨ 37 < p
   · exact exact_out d p h0 h ho g w B hT
   by_cases hn : p < 0
   · obtain ⟨k, hk⟩ : ∃ k : Nat, p = -(k : Int) := ⟨p.natAbs, by omega⟩
     subst hk
     exact exact_neg d k h0 h (by omega) (by omega) g w B hT
   · obtain ⟨k, hk⟩ : ∃ k : Nat, p = (k : Int) := ⟨p.natAbs, by omega⟩
     subst hk
     by_cases hb : k ≤ 22
     · exact exact_small d k h0 h (by omega) hb g w B hT
     · exact exact_big d k h0 h (by omega) (by omega) g w B hT
 · exact exact_far d p g h hd w B hT
theorem word_sum (g : Bool) (r : Nat) : Ieee.double.word g r = g.toNat * 9223372036854775808 + r := by
 cases g
 · rw [Fl.word_false]; simp
 · show 9223372036854775808 + r = _
   simp
def AtofS (d : Nat) (p : Int) (g : Bool) (n : Nat) (w : World) (x : Ending) (w' : World) : Prop :=
 ∃ r v, Fl.Near (Fl.vN d p) (Fl.vD p) r ∧ ErrV r v ∧ x = .returned (.tuple #[.float .f64 (Ieee.double.word g r), .int .i64 (n : Int), v]) ∧ Below w.heap.size w w'
theorem pf64_f (d : Nat) (p : Int) (h0 : 0 < d) (hd : d < 18446744073709551616) (hp0 : -345 ≤ p) (hp1 : p ≤ 310) (w : World) (hTab : TenTab w) (hw : 18 ≤ w.heap.size) :
 Calls Tryz.prog 200 #[.int .u64 (d : Int), .int .i64 p, .int .u64 0] w fun x w' => (∃ r v, Fl.Near (Fl.vN d p) (Fl.vD p) r ∧ ErrV r v ∧ x = .returned (.tuple #[.float .f64 (Ieee.double.word false r), v])) ∧ Below w.heap.size w w' := by
 have := pf64_any d p 0 (by decide) h0 hd hp0 hp1 w hTab hw
 refine this.mono ?_
 rintro x w' ⟨⟨r, v, a, b, rfl⟩, hb⟩
 exact ⟨⟨r, v, a, b, by rw [word_sum]; rfl⟩, hb⟩
theorem pf64_t (d : Nat) (p : Int) (h0 : 0 < d) (hd : d < 18446744073709551616) (hp0 : -345 ≤ p) (hp1 : p ≤ 310) (w : World) (hTab : TenTab w) (hw : 18 ≤ w.heap.size) :
 Calls Tryz.prog 200 #[.int .u64 (d : Int), .int .i64 p, .int .u64 9223372036854775808] w fun x w' => (∃ r v, Fl.Near (Fl.vN d p) (Fl.vD p) r ∧ ErrV r v ∧ x = .returned (.tuple #[.float .f64 (Ieee.double.word true r), v])) ∧ Below w.heap.size w w' := by
 have := pf64_any d p 1 (by decide) h0 hd hp0 hp1 w hTab hw
 refine this.mono ?_
 rintro x w' ⟨⟨r, v, a, b, rfl⟩, hb⟩
 exact ⟨⟨r, v, a, b, by rw [word_sum]; rfl⟩, hb⟩
theorem atof_walk (s : ByteArray) (g : Bool) (d : Nat) (p : Int) (h0 : 0 < d) (hd : d < 18446744073709551616) (hp0 : -345 ≤ p) (hp1 : p ≤ 310) (w : World) (B : Nat × Nat) (hT : TenPow w B) (hO : w.cell? ⟨8, 0, none⟩ = some (.bool true)) (hTab : TenTab w) (hw : 18 ≤ w.heap.size)
 (SP : ∀ W, Calls Tryz.prog 188 #[.string s] W fun x w' => x = .returned (.tuple #[.float .f64 0, .int .i64 0, .bool false]) ∧ w' = W)
 (RF : ∀ W, Calls Tryz.prog 189 #[.string s] W fun x w' => x = .returned (.tuple #[.int .u64 (d : Int), .int .i64 p, .bool g, .bool false, .bool false, .int .i64 s.size, .bool true]) ∧ w' = W) :
 Calls Tryz.prog 165 #[.string s] w (AtofS d p g s.size w) := by
 have SP := Lib.hid SP
 have RF := Lib.hid RF
 have k0 : ((d : Int) == 0) = false := by rw [beq_eq_false_iff_ne]; omega
 have k1 : decide (310 < p) = false := decide_eq_false (by omega)
 have k2 : decide (p < -345) = false := decide_eq_false (by omega)
 obtain ⟨n, hn⟩ : ∃ n, s.size = n := ⟨_, rfl⟩
 rw [hn] at RF ⊢
 cases g
 · have EX := Lib.hid (exact_any d p false h0 hd w B hT)
   have PF := Lib.hid (pf64_f d p h0 hd hp0 hp1 w hTab hw)
   clear hT hTab h0 hd hp0 hp1 hn hw
   go_enter Tryz.func165, Tryz.ntmps165
   go_wp2_with fail
   refine (SP.out _).mono ?_
   rintro x w1 ⟨rfl, rfl⟩
   go_wp2_with fail
   refine (RF.out _).mono ?_
   rintro x w1 ⟨rfl, rfl⟩
   go_wp2_with fail
   refine (bool2u_any false _).mono ?_
   rintro x w1 ⟨rfl, rfl⟩
   go_wp2_with fail
   refine (EX.out).mono ?_
   rintro x w1 ⟨F, ok, rfl, rfl, hok⟩
   cases ok
   · go_wp2_with fail
     refine (PF.out).mono ?_
     rintro x w2 ⟨⟨r, v, near, hv, rfl⟩, hb⟩
     obtain ⟨Y, hY⟩ : ∃ Y, Ieee.double.word false r = Y := ⟨_, rfl⟩
     rw [hY]
     have NR := Lib.hid (And.intro near (And.intro hv (And.intro hb hY)))
     clear near hv hb hY
     go_wp2_with fail
     refine bodyPost_ret (v := .tuple #[.float .f64 Y, .int .i64 (n : Int), v]) (by simp [results, Tryz.results165, go_sem]) rfl ?_
     exact ⟨r, v, NR.out.1, NR.out.2.1, by rw [NR.out.2.2.2], NR.out.2.2.1⟩
   · obtain ⟨r, near, hF⟩ := hok rfl
     have NR := Lib.hid (And.intro near hF)
     clear near hF hok
     go_wp2_with fail
     refine bodyPost_ret (v := .tuple #[.float .f64 F, .int .i64 (n : Int), .nilIface]) (by simp [results, Tryz.results165, go_sem]) rfl ?_
     exact ⟨r, .nilIface, NR.out.1, .inl rfl, by rw [NR.out.2], Below.refl _ _⟩
 · have EX := Lib.hid (exact_any d p true h0 hd w B hT)
   have PF := Lib.hid (pf64_t d p h0 hd hp0 hp1 w hTab hw)
   clear hT hTab h0 hd hp0 hp1 hn hw
   go_enter Tryz.func165, Tryz.ntmps165
   go_wp2_with fail
   refine (SP.out _).mono ?_
   rintro x w1 ⟨rfl, rfl⟩
   go_wp2_with fail
   refine (RF.out _).mono ?_
   rintro x w1 ⟨rfl, rfl⟩
   go_wp2_with fail
   refine (bool2u_any true _).mono ?_
   rintro x w1 ⟨rfl, rfl⟩
   go_wp2_with fail
   refine (EX.out).mono ?_
   rintro x w1 ⟨F, ok, rfl, rfl, hok⟩
   cases ok
   · go_wp2_with fail
     refine (PF.out).mono ?_
     rintro x w2 ⟨⟨r, v, near, hv, rfl⟩, hb⟩
     obtain ⟨Y, hY⟩ : ∃ Y, Ieee.double.word true r = Y := ⟨_, rfl⟩
     rw [hY]
     have NR := Lib.hid (And.intro near (And.intro hv (And.intro hb hY)))
     clear near hv hb hY
     go_wp2_with fail
     refine bodyPost_ret (v := .tuple #[.float .f64 Y, .int .i64 (n : Int), v]) (by simp [results, Tryz.results165, go_sem]) rfl ?_
     exact ⟨r, v, NR.out.1, NR.out.2.1, by rw [NR.out.2.2.2], NR.out.2.2.1⟩
   · obtain ⟨r, near, hF⟩ := hok rfl
     have NR := Lib.hid (And.intro near hF)
     clear near hF hok
     go_wp2_with fail
     refine bodyPost_ret (v := .tuple #[.float .f64 F, .int .i64 (n : Int), .nilIface]) (by simp [results, Tryz.results165, go_sem]) rfl ?_
     exact ⟨r, .nilIface, NR.out.1, .inl rfl, by rw [NR.out.2], Below.refl _ _⟩
theorem atof_trunc (s : ByteArray) (g : Bool) (d r0 : Nat) (p : Int) (h0 : 0 < d) (hd : d + 1 < 18446744073709551616) (hp0 : -345 ≤ p) (hp1 : p ≤ 310) (near0 : Fl.Near (Fl.vN d p) (Fl.vD p) r0) (near1 : Fl.Near (Fl.vN (d + 1) p) (Fl.vD p) r0) (w : World) (hO : w.cell? ⟨8, 0, none⟩ = some (.bool true)) (hTab : TenTab w) (hw : 18 ≤ w.heap.size)
 (SP : ∀ W, Calls Tryz.prog 188 #[.string s] W fun x w' => x = .returned (.tuple #[.float .f64 0, .int .i64 0, .bool false]) ∧ w' = W)
 (RF : ∀ W, Calls Tryz.prog 189 #[.string s] W fun x w' => x = .returned (.tuple #[.int .u64 (d : Int), .int .i64 p, .bool g, .bool true, .bool false, .int .i64 s.size, .bool true]) ∧ w' = W) :
 Calls Tryz.prog 165 #[.string s] w fun x w' => ∃ v, ErrV r0 v ∧ x = .returned (.tuple #[.float .f64 (Ieee.double.word g r0), .int .i64 (s.size : Int), v]) ∧ Below w.heap.size w w' := by
 have SP := Lib.hid SP
 have RF := Lib.hid RF
 have k0 : ((d : Int) == 0) = false := by rw [beq_eq_false_iff_ne]; omega
 have k1 : decide (310 < p) = false := decide_eq_false (by omega)
 have k2 : decide (p < -345) = false := decide_eq_false (by omega)
 obtain ⟨n, hn⟩ : ∃ n, s.size = n := ⟨_, rfl⟩
 rw [hn] at RF ⊢
 cases g
 · have PF := Lib.hid (pf64_f d p h0 (by omega) hp0 hp1 w hTab hw)
   have PG := Lib.hid (fun W (hb : Below w.heap.size w W) (hs : w.heap.size ≤ W.heap.size) => pf64_f (d + 1) p (by omega) hd hp0 hp1 W (hTab.on hw hb) (by omega))
   have EQ : (FloatKind.f64.format.order (Ieee.double.word false r0) (Ieee.double.word false r0) == some Ordering.eq) = true := by
    obtain ⟨a, b⟩ := word_lt false near0.1
    rw [order_key a a b b, Int.compare_eq_eq.2 rfl]
    rfl
   have U1 := Lib.hid (fun r (h : Fl.Near (Fl.vN d p) (Fl.vD p) r) => Fl.near_unique (Fl.vD_pos p) h near0)
   have U2 := Lib.hid (fun r (h : Fl.Near (Fl.vN (d + 1) p) (Fl.vD p) r) => Fl.near_unique (Fl.vD_pos p) h near1)
   obtain ⟨Y, hY⟩ : ∃ Y, Ieee.double.word false r0 = Y := ⟨_, rfl⟩
   rw [hY] at EQ
   have HY := Lib.hid hY
   obtain ⟨q, hq⟩ : ∃ q, d + 1 = q := ⟨_, rfl⟩
   have f1 : IntKind.u64.wrap ((d : Int) + 1) = (q : Int) := by rw [IntKind.wrap_u64]; omega
   rw [hq] at PG U2
   clear hTab h0 hd hp0 hp1 hn hw near0 near1 hY hq
   go_enter Tryz.func165, Tryz.ntmps165
   go_wp2_with fail
   refine (SP.out _).mono ?_
   rintro x w1 ⟨rfl, rfl⟩
   go_wp2_with fail
   refine (RF.out _).mono ?_
   rintro x w1 ⟨rfl, rfl⟩
   go_wp2_with fail
   refine (bool2u_any false _).mono ?_
   rintro x w1 ⟨rfl, rfl⟩
   go_wp2_with fail
   refine (PF.out).mono ?_
   rintro x w2 ⟨⟨r, v, near, hv, rfl⟩, hb⟩
   obtain rfl := U1.out r near
   rw [HY.out]
   have NR := Lib.hid (And.intro hv hb)
   clear near hv hb
   go_wp2_with fail
   refine (PG.out _ NR.out.2 NR.out.2.size).mono ?_
   rintro x w3 ⟨⟨r', v', near, hv, rfl⟩, hb⟩
   obtain rfl := U2.out r' near
   rw [HY.out]
   have NR2 := Lib.hid (b_trans NR.out.2 hb)
   clear near hv hb
   go_wp2_with fail
   refine bodyPost_ret (v := .tuple #[.float .f64 Y, .int .i64 (n : Int), v]) (by simp [results, Tryz.results165, go_sem]) rfl ?_
   exact ⟨v, NR.out.1, by rw [HY.out], NR2.out⟩
 · have PF := Lib.hid (pf64_t d p h0 (by omega) hp0 hp1 w hTab hw)
   have PG := Lib.hid (fun W (hb : Below w.heap.size w W) (hs : w.heap.size ≤ W.heap.size) => pf64_t (d + 1) p (by omega) hd hp0 hp1 W (hTab.on hw hb) (by omega))
   have EQ : (FloatKind.f64.format.order (Ieee.double.word true r0) (Ieee.double.word true r0) == some Ordering.eq) = true := by
    obtain ⟨a, b⟩ := word_lt true near0.1
    rw [order_key a a b b, Int.compare_eq_eq.2 rfl]
    rfl
   have U1 := Lib.hid (fun r (h : Fl.Near (Fl.vN d p) (Fl.vD p) r) => Fl.near_unique (Fl.vD_pos p) h near0)
   have U2 := Lib.hid (fun r (h : Fl.Near (Fl.vN (d + 1) p) (Fl.vD p) r) => Fl.near_unique (Fl.vD_pos p) h near1)
   obtain ⟨Y, hY⟩ : ∃ Y, Ieee.double.word true r0 = Y := ⟨_, rfl⟩
   rw [hY] at EQ
   have HY := Lib.hid hY
   obtain ⟨q, hq⟩ : ∃ q, d + 1 = q := ⟨_, rfl⟩
   have f1 : IntKind.u64.wrap ((d : Int) + 1) = (q : Int) := by rw [IntKind.wrap_u64]; omega
   rw [hq] at PG U2
   clear hTab h0 hd hp0 hp1 hn hw near0 near1 hY hq
   go_enter Tryz.func165, Tryz.ntmps165
   go_wp2_with fail
   refine (SP.out _).mono ?_
   rintro x w1 ⟨rfl, rfl⟩
   go_wp2_with fail
   refine (RF.out _).mono ?_
   rintro x w1 ⟨rfl, rfl⟩
   go_wp2_with fail
   refine (bool2u_any true _).mono ?_
   rintro x w1 ⟨rfl, rfl⟩
   go_wp2_with fail
   refine (PF.out).mono ?_
   rintro x w2 ⟨⟨r, v, near, hv, rfl⟩, hb⟩
   obtain rfl := U1.out r near
   rw [HY.out]
   have NR := Lib.hid (And.intro hv hb)
   clear near hv hb
   go_wp2_with fail
   refine (PG.out _ NR.out.2 NR.out.2.size).mono ?_
   rintro x w3 ⟨⟨r', v', near, hv, rfl⟩, hb⟩
   obtain rfl := U2.out r' near
   rw [HY.out]
   have NR2 := Lib.hid (b_trans NR.out.2 hb)
   clear near hv hb
   go_wp2_with fail
   refine bodyPost_ret (v := .tuple #[.float .f64 Y, .int .i64 (n : Int), v]) (by simp [results, Tryz.results165, go_sem]) rfl ?_
   exact ⟨v, NR.out.1, by rw [HY.out], NR2.out⟩
theorem special_txt (s : ByteArray) (g : Bool) (l : List Nat) (E : Int) (h : Fl.DecTxt s g l E) (W : World) : Calls Tryz.prog 188 #[.string s] W fun x w' => x = .returned (.tuple #[.float .f64 0, .int .i64 0, .bool false]) ∧ w' = W := by
 obtain ⟨a, b, el, P⟩ := h.pos
 have hel5 := Fl.few_digits h P
 have hlen := h.len
 have hsz := P.size
 have hb := P.hb
 have ha := P.ha
 obtain ⟨y, r, hl, hy⟩ := h.first
 have h0 : l[0]? = some y := by rw [hl]; rfl
 have hy9 := h.digs y (by rw [hl]; exact List.mem_cons_self)
 have hc := P.coef 0 y h0
 have hn0 : 0 < l.length := by rw [hl]; exact Nat.succ_pos _
 have ha2 : a ≤ 1 := by rw [ha]; split <;> omega
 have hs1 : s.size ≤ 1000 := by rw [hsz, hb]; split <;> omega
 have hs0 : a + l.length + 1 ≤ s.size := by rw [hsz, hb]; split <;> omega
 have hdv : ∀ B : UInt8, B = UInt8.ofNat (48 + y) → 48 ≤ B.toNat ∧ B.toNat ≤ 57 := by
  intro B hB
  rw [hB, UInt8.toNat_ofNat']
  omega
 cases g
 · have ha0 : a = 0 := ha
   subst ha0
   refine special_dig s (by omega) hs1 ?_ W
   rw [List.getElem?_eq_some_iff] at hc
   obtain ⟨q, hq⟩ := hc
   exact hdv _ hq
 · have ha1 : a = 1 := ha
   subst ha1
   have hsg := P.sign rfl
   have hts : (s.extract 1 s.size).size = s.size - 1 := by rw [ByteArray.size_extract]; omega
   refine special_neg s _ (by omega) hs1 ?_ rfl (by omega) (by omega) ?_ W
   · rw [List.getElem?_eq_some_iff] at hsg
     obtain ⟨q, hq⟩ := hsg
     exact hq
   · rw [List.getElem?_eq_some_iff] at hc
     obtain ⟨q, hq⟩ := hc
     refine hdv _ ?_
     rw [← hq]
     rw [ByteArray.getElem_extract]
     rfl
theorem pprefix_any (s : ByteArray) (n : Nat) (Y : Nat) (v : Value) (w : World) (Q : World → Prop)
 (A : Calls Tryz.prog 165 #[.string s] w fun x w' => x = .returned (.tuple #[.float .f64 Y, .int .i64 (n : Int), v]) ∧ Q w') :
 Calls Tryz.prog 133 #[.string s, .int .i64 64] w fun x w' => x = .returned (.tuple #[.float .f64 Y, .int .i64 (n : Int), v]) ∧ Q w' := by
 have A := Lib.hid A
 go_enter Tryz.func133, Tryz.ntmps133
 go_wp2_with fail
 refine (A.out).mono ?_
 rintro x w1 ⟨rfl, hq⟩
 have HQ := Lib.hid hq
 clear hq
 go_wp2_with fail
 refine bodyPost_ret (v := .tuple #[.float .f64 Y, .int .i64 (n : Int), v]) (by simp [results, Tryz.results133, go_sem]) rfl ?_
 exact ⟨rfl, HQ.out⟩
theorem pfloat_in (s : ByteArray) (Y : Nat) (v : Value) (w : World) (Q : World → Prop)
 (A : Calls Tryz.prog 165 #[.string s] w fun x w' => x = .returned (.tuple #[.float .f64 Y, .int .i64 (s.size : Int), v]) ∧ Q w') :
 Calls Tryz.prog 98 #[.string s, .int .i64 64] w fun x w' => x = .returned (.tuple #[.float .f64 Y, v]) ∧ Q w' := by
 have A := Lib.hid (pprefix_any s s.size Y v w Q A)
 go_enter Tryz.func98, Tryz.ntmps98
 go_wp2_with fail
 refine (A.out).mono ?_
 rintro x w1 ⟨rfl, hq⟩
 have HQ := Lib.hid hq
 clear hq
 go_wp2_with fail
 refine bodyPost_ret (v := .tuple #[.float .f64 Y, v]) (by simp [results, Tryz.results98, go_sem]) rfl ?_
 exact ⟨rfl, HQ.out⟩
theorem pfloat_nil (s : ByteArray) (Y : Nat) (w : World) (Q : World → Prop)
 (A : Calls Tryz.prog 165 #[.string s] w fun x w' => x = .returned (.tuple #[.float .f64 Y, .int .i64 (s.size : Int), .nilIface]) ∧ Q w') :
 Calls Tryz.prog 55 #[.string s, .int .i64 64] w fun x w' => x = .returned (.tuple #[.float .f64 Y, .nilIface]) ∧ Q w' := by
 have A := Lib.hid (pfloat_in s Y .nilIface w Q A)
 go_enter Tryz.func55, Tryz.ntmps55
 go_wp2_with fail
 refine (A.out).mono ?_
 rintro x w1 ⟨rfl, hq⟩
 have HQ := Lib.hid hq
 clear hq
 go_wp2_with fail
 refine bodyPost_ret (v := .tuple #[.float .f64 Y, .nilIface]) (by simp [results, Tryz.results55, go_sem]) rfl ?_
 exact ⟨rfl, HQ.out⟩
theorem mant_64 {s : ByteArray} {g : Bool} {l : List Nat} {E : Int} (h : Fl.DecTxt s g l E) : 0 < Fl.mantN l l.length ∧ Fl.mantN l l.length + 1 < 18446744073709551616 := by
 refine ⟨Fl.mantN_pos h (List.length_pos_iff.2 h.ne) (Nat.le_refl _), ?_⟩
 have h1 := Fl.mantN_lt h.digs l.length
 have h2 : 10 ^ min l.length 19 ≤ 10 ^ 19 := Nat.pow_le_pow_right (by omega) (by omega)
 have h3 : (10 : Nat) ^ 19 = 10000000000000000000 := by decide
 omega
theorem readfloat_nought (w : World) : Calls Tryz.prog 189 #[.string ⟨#[48, 101, 48]⟩] w fun x w' => x = .returned (.tuple #[.int .u64 0, .int .i64 0, .bool false, .bool false, .bool false, .int .i64 3, .bool true]) ∧ w' = w := by
 obtain ⟨S, hS⟩ : ∃ S : ByteArray, (⟨#[48, 101, 48]⟩ : ByteArray) = S := ⟨_, rfl⟩
 have hs : S.size = 3 := by rw [← hS]; rfl
 have hb0 : S[0]'(by omega) = 48 := by subst hS; rfl
 have hb1 : S[1]'(by omega) = 101 := by subst hS; rfl
 have hb2 : S[2]'(by omega) = 48 := by subst hS; rfl
 have hse : S ≠ ByteArray.empty := fun he => by rw [he] at hs; cases hs
 rw [hS]
 clear hS
 go_enter Tryz.func189, Tryz.ntmps189
 go_wp2_with fail
 go_step3
 go_wp2_with fail
 refine (lower_e _).mono ?_
 rintro y w1 ⟨rfl, rfl⟩
 go_wp2_with fail
 go_step3
 go_wp2_with fail
 go_loopg [2, 5, 7, 9, 13, 14, 15, 16, 17, 18] 1 (fun f t2 t5 t7 t9 t13 t14 t15 t16 t17 _ wx => t2 = .int .u64 0 ∧ t5 = .bool false ∧ t9 = .bool false ∧ t13 = .bool false ∧ t15 = .int .i64 0 ∧ t16 = .int .i64 0 ∧ wx = w1 ∧ ((f = 1 ∧ t7 = .int .i64 0 ∧ t14 = .bool false ∧ t17 = .int .i64 0) ∨ (f = 0 ∧ t7 = .int .i64 1 ∧ t14 = .bool true ∧ t17 = .int .i64 (-1))))
 case atStart => exact ⟨rfl, rfl, rfl, rfl, rfl, rfl, rfl, .inl ⟨rfl, rfl, rfl, rfl⟩⟩
 case round =>
  obtain ⟨e2, e5, e9, e13, e15, e16, ew, h | h⟩ := hrel
  · obtain ⟨rfl, e7, e14, e17⟩ := h
    subst e2 e5 e7 e9 e13 e14 e15 e16 e17
    go_wp2_with fail
    go_roundg 0
    case measure => exact Nat.lt_succ_self _
    case rel => exact ⟨rfl, rfl, rfl, rfl, rfl, rfl, by first | rfl | exact ew, .inr ⟨rfl, rfl, rfl, rfl⟩⟩
  · obtain ⟨rfl, e7, e14, e17⟩ := h
    subst e2 e5 e7 e9 e13 e14 e15 e16 e17
    go_wp2_with fail
    refine (lower_e _).mono ?_
    rintro y w2 ⟨rfl, rfl⟩
    go_wp2_with fail
    go_loopg [7, 9, 20] 1 (fun f t7 t9 t20 wx => t9 = .bool false ∧ t20 = .int .i64 0 ∧ wx = w2 ∧ ((f = 1 ∧ t7 = .int .i64 2) ∨ (f = 0 ∧ t7 = .int .i64 3)))
    case atStart => exact ⟨rfl, rfl, rfl, .inl ⟨rfl, rfl⟩⟩
    case round =>
     obtain ⟨e9, e20, ew2, h | h⟩ := hrel
     · obtain ⟨rfl, e7⟩ := h
       subst e7 e9 e20
       go_wp2_with fail
       go_roundg 0
       case measure => exact Nat.lt_succ_self _
       case rel => exact ⟨rfl, rfl, by first | rfl | exact ew2, .inr ⟨rfl, rfl⟩⟩
     · obtain ⟨rfl, e7⟩ := h
       subst e7 e9 e20
       go_wp2_with fail
       rw [Exit.noGoto_ret]
       refine bodyPost_ret (v := .tuple #[.int .u64 0, .int .i64 0, .bool false, .bool false, .bool false, .int .i64 3, .bool true]) (by simp [results, Tryz.results189, go_sem]) rfl ?_
       exact ⟨rfl, by first | rfl | exact ew2.trans ew | exact ew2⟩
theorem atof_nought (w : World) (hO : w.cell? ⟨8, 0, none⟩ = some (.bool true)) : Calls Tryz.prog 165 #[.string ⟨#[48, 101, 48]⟩] w fun x w' => x = .returned (.tuple #[.float .f64 0, .int .i64 3, .nilIface]) ∧ w' = w := by
 have SP := Lib.hid (fun W => special_dig ⟨#[48, 101, 48]⟩ (by decide) (by decide) (by decide) W)
 have RF := Lib.hid (fun W => readfloat_nought W)
 have fb : ∀ W, (callFunc 198 #[.int .u64 0]).run Tryz.prog W = .ok (.value (.float .f64 0)) W := fun W => run_frombits2 0 W
 have o1 : bits .or .u64 0 0 = 0 := by decide
 obtain ⟨S, hS⟩ : ∃ S : ByteArray, (⟨#[48, 101, 48]⟩ : ByteArray) = S := ⟨_, rfl⟩
 rw [hS] at SP RF ⊢
 clear hS
 go_enter Tryz.func165, Tryz.ntmps165
 go_wp2_with fail
 refine (SP.out _).mono ?_
 rintro x w1 ⟨rfl, rfl⟩
 go_wp2_with fail
 refine (RF.out _).mono ?_
 rintro x w1 ⟨rfl, rfl⟩
 go_wp2_with fail
 refine (bool2u_any false _).mono ?_
 rintro x w1 ⟨rfl, rfl⟩
 go_wp2_with fail
 refine bodyPost_ret (v := .tuple #[.float .f64 0, .int .i64 3, .nilIface]) (by simp [results, Tryz.results165, go_sem]) rfl ?_
 exact ⟨rfl, rfl⟩
theorem parsefloat_nought (w : World) (hO : w.cell? ⟨8, 0, none⟩ = some (.bool true)) : Calls Tryz.prog 55 #[.string ⟨#[48, 101, 48]⟩, .int .i64 64] w fun x w' => x = .returned (.tuple #[.float .f64 0, .nilIface]) ∧ w' = w :=
 pfloat_nil ⟨#[48, 101, 48]⟩ 0 w (fun w' => w' = w) (atof_nought w hO)
structure Laid2 (w : World) (B : Nat × Nat) : Prop where
 laid : Laid w
 pow : TenPow w B
 opt : w.cell? ⟨8, 0, none⟩ = some (.bool true)
 tab : TenTab w
 lt : B.1 < w.heap.size
theorem Laid2.size {w : World} {B : Nat × Nat} (h : Laid2 w B) : 18 ≤ w.heap.size := h.laid.2.1
theorem Laid2.on {w w' : World} {B : Nat × Nat} (h : Laid2 w B) (hb : Below w.heap.size w w') : Laid2 w' B := by
 have hs := h.size
 have hs2 := hb.size
 have hl := h.lt
 refine ⟨h.laid.on hb, ⟨(hb.cell (by show 9 < _; omega)).trans h.pow.info, (hb.cell (by show 12 < _; omega)).trans h.pow.ptr, fun k hk => (hb.cell (by show B.1 < _; omega)).trans (h.pow.row k hk)⟩, (hb.cell (by show 8 < _; omega)).trans h.opt, h.tab.on hs hb, by omega⟩
end Go.Proofs.YtjapgpmoojfhnaaGreatDoor
