/- The library's exact road: great powers of ten, and the whole of it. atof64 at the text of a decimal whose digits all fit the mantissa. atof64 at the text of a decimal whose digits do not all fit the mantissa, where both neighbours have one nearest number. special at the text of a decimal. ParseFloat, over what atof64 answers. ParseFloat at the text of a decimal: the nearest number. ParseFloat at a float's own expansion gives the float. ParseFloat at the text of nought. Nearest: over what ParseFloat and exact answer. The reference: the text of a decimal; Long. Rows that are written. Rows of digits, least significant first: products by sums of columns. -/
import Derived.Test.YtjapgpmoojfhnaaGreatDoorB07
import Derived.Test.YtjapgpmoojfhnaaGreatDoorB10
import Derived.Test.YtjapgpmoojfhnaaGreatDoorB11
import Derived.Test.YtjapgpmoojfhnaaGreatDoorB14
import Derived.Test.YtjapgpmoojfhnaaGreatDoorB16
namespace Go.Proofs.YtjapgpmoojfhnaaGreatDoor
open Go.RowKit Go.Lib

theorem ten_split {d k : Nat} (h : 22 < k) : d * 10 ^ (k - 22) * 10 ^ 22 * 2 ^ 1074 = d * 10 ^ k * 2 ^ 1074 := by
  rw [Nat.mul_assoc d, ← Nat.pow_add, show k - 22 + 22 = k by omega]
set_option maxHeartbeats 1000000 in
set_option maxRecDepth 100000 in
theorem exact_big (d k : Nat) (h0 : 0 < d) (hd : d < 4503599627370496) (hk0 : 22 < k) (hk : k ≤ 37) (g : Bool) (w : World) (B : Nat × Nat) (hT : TenPow w B) : Calls Tryz.prog 199 #[.int .u64 (d : Int), .int .i64 (k : Int), .bool g] w (ExactS d (k : Int) g w) := by
  have e0 := hT.info
  have e1 := hT.ptr
  have f1 : (d : Int) / 4503599627370496 = 0 := by omega
  have cv := cvt_nat d h0 (by omega)
  obtain ⟨v0, v1, v2⟩ := Fl.wordN_rung h0 (by omega : d < 9007199254740992)
  obtain ⟨R, hR⟩ : ∃ R, Fl.wordN d = R := ⟨_, rfl⟩
  rw [hR] at cv v0 v1 v2
  have ng := fun W => run_neg64 (R := R) (by omega) W
  obtain ⟨t0, t1, t2⟩ := Fl.ten_val (k := k - 22) (by omega)
  have e2 := hT.row (k - 22) (by omega)
  obtain ⟨T, hTT⟩ : ∃ T, Fl.tenW.getD (k - 22) 0 = T := ⟨_, rfl⟩
  rw [hTT] at e2 t0 t1 t2
  have ten_split := ten_split (d := d) hk0
  obtain ⟨s0, s1, s2⟩ := Fl.ten_val (k := 22) (by omega)
  have e3 := hT.row 22 (by omega)
  obtain ⟨S, hSS⟩ : ∃ S, Fl.tenW.getD 22 0 = S := ⟨_, rfl⟩
  rw [hSS] at e3 s0 s1 s2
  have near1 := Fl.mulR_near v0 t0 v1 t1
  have ml1 := mulw g v2 t2
  obtain ⟨N, hN⟩ : ∃ N, Fl.mulR R T = N := ⟨_, rfl⟩
  rw [hN] at near1 ml1
  have c1 := gtf g (R := N) near1.1
  have c2 := ltf g (R := N) near1.1
  have near : N ≤ 4831355200913801216 → Fl.Near (Fl.vN d k) (Fl.vD k) (Fl.mulR N S) := fun hle => by
    obtain ⟨a, b⟩ := Fl.whole_le (Nat.mul_pos h0 (Nat.pow_pos (by omega))) near1 hle
    have := Fl.mulR_near a s0 b s1
    rw [ten_split, ← (vnd_pos d k).1, ← (vnd_pos d k).2] at this
    exact this
  have ml : N ≤ 4831355200913801216 → Ieee.double.mul (Ieee.double.word g N) S = some (Ieee.double.word g (Fl.mulR N S)) := fun hle => mulw g (by omega) s2
  obtain ⟨M, hM⟩ : ∃ M, Fl.mulR N S = M := ⟨_, rfl⟩
  rw [hM] at near ml
  obtain ⟨F, hF⟩ : ∃ F, Ieee.double.word g R = F := ⟨_, rfl⟩
  obtain ⟨G, hG⟩ : ∃ G, Ieee.double.word g N = G := ⟨_, rfl⟩
  obtain ⟨Y, hY⟩ : ∃ Y, Ieee.double.word g M = Y := ⟨_, rfl⟩
  rw [hG, hF] at ml1
  rw [hY, hG] at ml
  rw [hG] at c1 c2
  have mm1 := fun W => run_float_arith (P := Tryz.prog) W .mul 57 .f64 F T G ml1
  have NR := Lib.hid near
  have HY := Lib.hid hY
  have k1 : ((k : Int) == 0) = false := by rw [beq_eq_false_iff_ne]; omega
  have k2 : decide (0 < (k : Int)) = true := decide_eq_true (by omega)
  have k3 : decide ((k : Int) ≤ 37) = true := decide_eq_true (by omega)
  have k4 : decide (22 < (k : Int)) = true := decide_eq_true (by omega)
  have k2' : decide (0 < k) = true := decide_eq_true (by omega)
  have k3' : decide (k ≤ 37) = true := decide_eq_true (by omega)
  have k4' : decide (22 < k) = true := decide_eq_true (by omega)
  obtain ⟨j, hj⟩ : ∃ j, k - 22 = j := ⟨_, rfl⟩
  rw [hj] at e2
  have k5 : IntKind.i64.wrap ((k : Int) - 22) = (j : Int) := by rw [IntKind.wrap_i64]; omega
  have k5' : wrap64 ((k : Int) - 22) = (j : Int) := by unfold wrap64; omega
  have k6 : j < 23 := by omega
  obtain ⟨Z, hZ⟩ : ∃ Z, decide (4831355200913801216 < N) = Z := ⟨_, rfl⟩
  rw [hZ] at c1 c2
  have mm := fun (h : Z = false) W => run_float_arith (P := Tryz.prog) W .mul 57 .f64 G S Y (ml (by rw [h] at hZ; have := of_decide_eq_false hZ; omega))
  have hZ' : Z = false → N ≤ 4831355200913801216 := fun h => by rw [h] at hZ; have := of_decide_eq_false hZ; omega
  have HZ := Lib.hid hZ'
  clear hZ hZ' hM hTT hY hT near ml near1 ml1 t0 t1 t2 s0 s1 s2 v0 v1 v2 hd h0 hR hj hN hG hSS ten_split
  cases Z
  · have mm := mm rfl
    cases g
    · rw [word_f] at hF
      subst hF
      go_enter Tryz.func199, Tryz.ntmps199
      go_wp2_with fail
      go_ret2
      exact ⟨Y, true, rfl, rfl, fun _ => ⟨M, NR.out (HZ.out trivial), HY.out.symm⟩⟩
    · rw [hF] at ng
      clear hF
      go_enter Tryz.func199, Tryz.ntmps199
      go_wp2_with fail
      go_ret2
      exact ⟨Y, true, rfl, rfl, fun _ => ⟨M, NR.out (HZ.out trivial), HY.out.symm⟩⟩
  · clear mm
    cases g
    · rw [word_f] at hF
      subst hF
      go_enter Tryz.func199, Tryz.ntmps199
      go_wp2_with fail
      go_ret2
      exact ⟨_, false, rfl, rfl, fun h => by cases h⟩
    · rw [hF] at ng
      clear hF
      go_enter Tryz.func199, Tryz.ntmps199
      go_wp2_with fail
      go_ret2
      exact ⟨_, false, rfl, rfl, fun h => by cases h⟩
set_option maxHeartbeats 1000000 in
set_option maxRecDepth 100000 in
theorem exact_out (d : Nat) (p : Int) (h0 : 0 < d) (hd : d < 4503599627370496) (hp : p < -22 ∨ 37 < p) (g : Bool) (w : World) (B : Nat × Nat) (hT : TenPow w B) : Calls Tryz.prog 199 #[.int .u64 (d : Int), .int .i64 p, .bool g] w (ExactS d p g w) := by
  have e0 := hT.info
  have f1 : (d : Int) / 4503599627370496 = 0 := by omega
  have cv := cvt_nat d h0 (by omega)
  obtain ⟨v0, v1, v2⟩ := Fl.wordN_rung h0 (by omega : d < 9007199254740992)
  obtain ⟨R, hR⟩ : ∃ R, Fl.wordN d = R := ⟨_, rfl⟩
  rw [hR] at cv v0 v1 v2
  have ng := fun W => run_neg64 (R := R) (by omega) W
  obtain ⟨F, hF⟩ : ∃ F, Ieee.double.word true R = F := ⟨_, rfl⟩
  rw [hF] at ng
  have k1 : (p == 0) = false := by rw [beq_eq_false_iff_ne]; omega
  clear v0 v1 v2 hT hd h0 hR hF
  rcases hp with hp | hp
  · have k2 : decide (0 < p) = false := decide_eq_false (by omega)
    have k3 : decide (p < 0) = true := decide_eq_true (by omega)
    have k4 : decide (-22 ≤ p) = false := decide_eq_false (by omega)
    clear hp
    cases g
    · go_enter Tryz.func199, Tryz.ntmps199
      go_wp2_with fail
      go_ret2
      exact ⟨_, false, rfl, rfl, fun h => by cases h⟩
    · go_enter Tryz.func199, Tryz.ntmps199
      go_wp2_with fail
      go_ret2
      exact ⟨_, false, rfl, rfl, fun h => by cases h⟩
  · have k2 : decide (0 < p) = true := decide_eq_true (by omega)
    have k3 : decide (p < 0) = false := decide_eq_false (by omega)
    have k4 : decide (p ≤ 37) = false := decide_eq_false (by omega)
    clear hp
    cases g
    · go_enter Tryz.func199, Tryz.ntmps199
      go_wp2_with fail
      go_ret2
      exact ⟨_, false, rfl, rfl, fun h => by cases h⟩
    · go_enter Tryz.func199, Tryz.ntmps199
      go_wp2_with fail
      go_ret2
      exact ⟨_, false, rfl, rfl, fun h => by cases h⟩
/-- atof64exact: where it answers, it answers with the nearest number. -/
theorem exact_any (d : Nat) (p : Int) (g : Bool) (h0 : 0 < d) (hd : d < 18446744073709551616) (w : World) (B : Nat × Nat) (hT : TenPow w B) : Calls Tryz.prog 199 #[.int .u64 (d : Int), .int .i64 p, .bool g] w (ExactS d p g w) := by
  rcases Nat.lt_or_ge d 4503599627370496 with h | h
  · by_cases hz : p = 0
    · subst hz
      exact exact_zero d g h0 h w B hT
    by_cases ho : p < -22 ∨ 37 < p
    · exact exact_out d p h0 h ho g w B hT
    by_cases hn : p < 0
    · obtain ⟨k, hk⟩ : ∃ k : Nat, p = -(k : Int) := ⟨p.natAbs, by omega⟩
      subst hk
      exact exact_neg d k h0 h (by omega) (by omega) g w B hT
    · obtain ⟨k, hk⟩ : ∃ k : Nat, p = (k : Int) := ⟨p.natAbs, by omega⟩
      subst hk
      by_cases hb : k ≤ 22
      · exact exact_small d k h0 h (by omega) hb g w B hT
      · exact exact_big d k h0 h (by omega) (by omega) g w B hT
  · exact exact_far d p g h hd w B hT
end Go.Proofs.YtjapgpmoojfhnaaGreatDoor

namespace Go.Proofs.YtjapgpmoojfhnaaGreatDoor
open Go.RowKit Go.Lib

theorem word_sum (g : Bool) (r : Nat) : Ieee.double.word g r = g.toNat * 9223372036854775808 + r := by
  cases g
  · rw [Fl.word_false]; simp
  · show 9223372036854775808 + r = _
    simp
def AtofS (d : Nat) (p : Int) (g : Bool) (n : Nat) (w : World) (x : Ending) (w' : World) : Prop :=
  ∃ r v, Fl.Near (Fl.vN d p) (Fl.vD p) r ∧ ErrV r v ∧ x = .returned (.tuple #[.float .f64 (Ieee.double.word g r), .int .i64 (n : Int), v]) ∧ Below w.heap.size w w'
theorem pf64_f (d : Nat) (p : Int) (h0 : 0 < d) (hd : d < 18446744073709551616) (hp0 : -345 ≤ p) (hp1 : p ≤ 310) (w : World) (hTab : TenTab w) (hw : 18 ≤ w.heap.size) :
    Calls Tryz.prog 200 #[.int .u64 (d : Int), .int .i64 p, .int .u64 0] w fun x w' => (∃ r v, Fl.Near (Fl.vN d p) (Fl.vD p) r ∧ ErrV r v ∧ x = .returned (.tuple #[.float .f64 (Ieee.double.word false r), v])) ∧ Below w.heap.size w w' := by
  have := pf64_any d p 0 (by decide) h0 hd hp0 hp1 w hTab hw
  refine this.mono ?_
  rintro x w' ⟨⟨r, v, a, b, rfl⟩, hb⟩
  exact ⟨⟨r, v, a, b, by rw [word_sum]; rfl⟩, hb⟩
theorem pf64_t (d : Nat) (p : Int) (h0 : 0 < d) (hd : d < 18446744073709551616) (hp0 : -345 ≤ p) (hp1 : p ≤ 310) (w : World) (hTab : TenTab w) (hw : 18 ≤ w.heap.size) :
    Calls Tryz.prog 200 #[.int .u64 (d : Int), .int .i64 p, .int .u64 9223372036854775808] w fun x w' => (∃ r v, Fl.Near (Fl.vN d p) (Fl.vD p) r ∧ ErrV r v ∧ x = .returned (.tuple #[.float .f64 (Ieee.double.word true r), v])) ∧ Below w.heap.size w w' := by
  have := pf64_any d p 1 (by decide) h0 hd hp0 hp1 w hTab hw
  refine this.mono ?_
  rintro x w' ⟨⟨r, v, a, b, rfl⟩, hb⟩
  exact ⟨⟨r, v, a, b, by rw [word_sum]; rfl⟩, hb⟩
set_option maxHeartbeats 2000000 in
set_option maxRecDepth 100000 in
theorem atof_walk (s : ByteArray) (g : Bool) (d : Nat) (p : Int) (h0 : 0 < d) (hd : d < 18446744073709551616) (hp0 : -345 ≤ p) (hp1 : p ≤ 310) (w : World) (B : Nat × Nat) (hT : TenPow w B) (hO : w.cell? ⟨8, 0, none⟩ = some (.bool true)) (hTab : TenTab w) (hw : 18 ≤ w.heap.size)
    (SP : ∀ W, Calls Tryz.prog 188 #[.string s] W fun x w' => x = .returned (.tuple #[.float .f64 0, .int .i64 0, .bool false]) ∧ w' = W)
    (RF : ∀ W, Calls Tryz.prog 189 #[.string s] W fun x w' => x = .returned (.tuple #[.int .u64 (d : Int), .int .i64 p, .bool g, .bool false, .bool false, .int .i64 s.size, .bool true]) ∧ w' = W) :
    Calls Tryz.prog 165 #[.string s] w (AtofS d p g s.size w) := by
  have SP := Lib.hid SP
  have RF := Lib.hid RF
  have k0 : ((d : Int) == 0) = false := by rw [beq_eq_false_iff_ne]; omega
  have k1 : decide (310 < p) = false := decide_eq_false (by omega)
  have k2 : decide (p < -345) = false := decide_eq_false (by omega)
  obtain ⟨n, hn⟩ : ∃ n, s.size = n := ⟨_, rfl⟩
  rw [hn] at RF ⊢
  cases g
  · have EX := Lib.hid (exact_any d p false h0 hd w B hT)
    have PF := Lib.hid (pf64_f d p h0 hd hp0 hp1 w hTab hw)
    clear hT hTab h0 hd hp0 hp1 hn hw
    go_enter Tryz.func165, Tryz.ntmps165
    go_wp2_with fail
    refine (SP.out _).mono ?_
    rintro x w1 ⟨rfl, rfl⟩
    go_wp2_with fail
    refine (RF.out _).mono ?_
    rintro x w1 ⟨rfl, rfl⟩
    go_wp2_with fail
    refine (bool2u_any false _).mono ?_
    rintro x w1 ⟨rfl, rfl⟩
    go_wp2_with fail
    refine (EX.out).mono ?_
    rintro x w1 ⟨F, ok, rfl, rfl, hok⟩
    cases ok
    · go_wp2_with fail
      refine (PF.out).mono ?_
      rintro x w2 ⟨⟨r, v, near, hv, rfl⟩, hb⟩
      obtain ⟨Y, hY⟩ : ∃ Y, Ieee.double.word false r = Y := ⟨_, rfl⟩
      rw [hY]
      have NR := Lib.hid (And.intro near (And.intro hv (And.intro hb hY)))
      clear near hv hb hY
      go_wp2_with fail
      refine bodyPost_ret (v := .tuple #[.float .f64 Y, .int .i64 (n : Int), v]) (by simp [results, Tryz.results165, go_sem]) rfl ?_
      exact ⟨r, v, NR.out.1, NR.out.2.1, by rw [NR.out.2.2.2], NR.out.2.2.1⟩
    · obtain ⟨r, near, hF⟩ := hok rfl
      have NR := Lib.hid (And.intro near hF)
      clear near hF hok
      go_wp2_with fail
      refine bodyPost_ret (v := .tuple #[.float .f64 F, .int .i64 (n : Int), .nilIface]) (by simp [results, Tryz.results165, go_sem]) rfl ?_
      exact ⟨r, .nilIface, NR.out.1, .inl rfl, by rw [NR.out.2], Below.refl _ _⟩
  · have EX := Lib.hid (exact_any d p true h0 hd w B hT)
    have PF := Lib.hid (pf64_t d p h0 hd hp0 hp1 w hTab hw)
    clear hT hTab h0 hd hp0 hp1 hn hw
    go_enter Tryz.func165, Tryz.ntmps165
    go_wp2_with fail
    refine (SP.out _).mono ?_
    rintro x w1 ⟨rfl, rfl⟩
    go_wp2_with fail
    refine (RF.out _).mono ?_
    rintro x w1 ⟨rfl, rfl⟩
    go_wp2_with fail
    refine (bool2u_any true _).mono ?_
    rintro x w1 ⟨rfl, rfl⟩
    go_wp2_with fail
    refine (EX.out).mono ?_
    rintro x w1 ⟨F, ok, rfl, rfl, hok⟩
    cases ok
    · go_wp2_with fail
      refine (PF.out).mono ?_
      rintro x w2 ⟨⟨r, v, near, hv, rfl⟩, hb⟩
      obtain ⟨Y, hY⟩ : ∃ Y, Ieee.double.word true r = Y := ⟨_, rfl⟩
      rw [hY]
      have NR := Lib.hid (And.intro near (And.intro hv (And.intro hb hY)))
      clear near hv hb hY
      go_wp2_with fail
      refine bodyPost_ret (v := .tuple #[.float .f64 Y, .int .i64 (n : Int), v]) (by simp [results, Tryz.results165, go_sem]) rfl ?_
      exact ⟨r, v, NR.out.1, NR.out.2.1, by rw [NR.out.2.2.2], NR.out.2.2.1⟩
    · obtain ⟨r, near, hF⟩ := hok rfl
      have NR := Lib.hid (And.intro near hF)
      clear near hF hok
      go_wp2_with fail
      refine bodyPost_ret (v := .tuple #[.float .f64 F, .int .i64 (n : Int), .nilIface]) (by simp [results, Tryz.results165, go_sem]) rfl ?_
      exact ⟨r, .nilIface, NR.out.1, .inl rfl, by rw [NR.out.2], Below.refl _ _⟩
end Go.Proofs.YtjapgpmoojfhnaaGreatDoor

namespace Go.Proofs.YtjapgpmoojfhnaaGreatDoor
open Go.RowKit Go.Lib

end Go.Proofs.YtjapgpmoojfhnaaGreatDoor

namespace Go.Proofs.YtjapgpmoojfhnaaGreatDoor
open Go.RowKit Go.Lib

theorem special_txt (s : ByteArray) (g : Bool) (l : List Nat) (E : Int) (h : Fl.DecTxt s g l E) (W : World) : Calls Tryz.prog 188 #[.string s] W fun x w' => x = .returned (.tuple #[.float .f64 0, .int .i64 0, .bool false]) ∧ w' = W := by
  obtain ⟨a, b, el, P⟩ := h.pos
  have hel5 := Fl.few_digits h P
  have hlen := h.len
  have hsz := P.size
  have hb := P.hb
  have ha := P.ha
  obtain ⟨y, r, hl, hy⟩ := h.first
  have h0 : l[0]? = some y := by rw [hl]; rfl
  have hy9 := h.digs y (by rw [hl]; exact List.mem_cons_self)
  have hc := P.coef 0 y h0
  have hn0 : 0 < l.length := by rw [hl]; exact Nat.succ_pos _
  have ha2 : a ≤ 1 := by rw [ha]; split <;> omega
  have hs1 : s.size ≤ 1000 := by rw [hsz, hb]; split <;> omega
  have hs0 : a + l.length + 1 ≤ s.size := by rw [hsz, hb]; split <;> omega
  have hdv : ∀ B : UInt8, B = UInt8.ofNat (48 + y) → 48 ≤ B.toNat ∧ B.toNat ≤ 57 := by
    intro B hB
    rw [hB, UInt8.toNat_ofNat']
    omega
  cases g
  · have ha0 : a = 0 := ha
    subst ha0
    refine special_dig s (by omega) hs1 ?_ W
    rw [List.getElem?_eq_some_iff] at hc
    obtain ⟨q, hq⟩ := hc
    exact hdv _ hq
  · have ha1 : a = 1 := ha
    subst ha1
    have hsg := P.sign rfl
    have hts : (s.extract 1 s.size).size = s.size - 1 := by rw [ByteArray.size_extract]; omega
    refine special_neg s _ (by omega) hs1 ?_ rfl (by omega) (by omega) ?_ W
    · rw [List.getElem?_eq_some_iff] at hsg
      obtain ⟨q, hq⟩ := hsg
      exact hq
    · rw [List.getElem?_eq_some_iff] at hc
      obtain ⟨q, hq⟩ := hc
      refine hdv _ ?_
      rw [← hq]
      rw [ByteArray.getElem_extract]
      rfl
end Go.Proofs.YtjapgpmoojfhnaaGreatDoor

namespace Go.Proofs.YtjapgpmoojfhnaaGreatDoor
open Go.RowKit Go.Lib

set_option maxHeartbeats 1000000 in
set_option maxRecDepth 100000 in
theorem pprefix_any (s : ByteArray) (n : Nat) (Y : Nat) (v : Value) (w : World) (Q : World → Prop)
    (A : Calls Tryz.prog 165 #[.string s] w fun x w' => x = .returned (.tuple #[.float .f64 Y, .int .i64 (n : Int), v]) ∧ Q w') :
    Calls Tryz.prog 133 #[.string s, .int .i64 64] w fun x w' => x = .returned (.tuple #[.float .f64 Y, .int .i64 (n : Int), v]) ∧ Q w' := by
  have A := Lib.hid A
  go_enter Tryz.func133, Tryz.ntmps133
  go_wp2_with fail
  refine (A.out).mono ?_
  rintro x w1 ⟨rfl, hq⟩
  have HQ := Lib.hid hq
  clear hq
  go_wp2_with fail
  refine bodyPost_ret (v := .tuple #[.float .f64 Y, .int .i64 (n : Int), v]) (by simp [results, Tryz.results133, go_sem]) rfl ?_
  exact ⟨rfl, HQ.out⟩
set_option maxHeartbeats 1000000 in
set_option maxRecDepth 100000 in
theorem pfloat_in (s : ByteArray) (Y : Nat) (v : Value) (w : World) (Q : World → Prop)
    (A : Calls Tryz.prog 165 #[.string s] w fun x w' => x = .returned (.tuple #[.float .f64 Y, .int .i64 (s.size : Int), v]) ∧ Q w') :
    Calls Tryz.prog 98 #[.string s, .int .i64 64] w fun x w' => x = .returned (.tuple #[.float .f64 Y, v]) ∧ Q w' := by
  have A := Lib.hid (pprefix_any s s.size Y v w Q A)
  go_enter Tryz.func98, Tryz.ntmps98
  go_wp2_with fail
  refine (A.out).mono ?_
  rintro x w1 ⟨rfl, hq⟩
  have HQ := Lib.hid hq
  clear hq
  go_wp2_with fail
  refine bodyPost_ret (v := .tuple #[.float .f64 Y, v]) (by simp [results, Tryz.results98, go_sem]) rfl ?_
  exact ⟨rfl, HQ.out⟩
set_option maxHeartbeats 1000000 in
set_option maxRecDepth 100000 in
theorem pfloat_nil (s : ByteArray) (Y : Nat) (w : World) (Q : World → Prop)
    (A : Calls Tryz.prog 165 #[.string s] w fun x w' => x = .returned (.tuple #[.float .f64 Y, .int .i64 (s.size : Int), .nilIface]) ∧ Q w') :
    Calls Tryz.prog 55 #[.string s, .int .i64 64] w fun x w' => x = .returned (.tuple #[.float .f64 Y, .nilIface]) ∧ Q w' := by
  have A := Lib.hid (pfloat_in s Y .nilIface w Q A)
  go_enter Tryz.func55, Tryz.ntmps55
  go_wp2_with fail
  refine (A.out).mono ?_
  rintro x w1 ⟨rfl, hq⟩
  have HQ := Lib.hid hq
  clear hq
  go_wp2_with fail
  refine bodyPost_ret (v := .tuple #[.float .f64 Y, .nilIface]) (by simp [results, Tryz.results55, go_sem]) rfl ?_
  exact ⟨rfl, HQ.out⟩
end Go.Proofs.YtjapgpmoojfhnaaGreatDoor

namespace Go.Proofs.YtjapgpmoojfhnaaGreatDoor
open Go.RowKit Go.Lib

theorem mant_64 {s : ByteArray} {g : Bool} {l : List Nat} {E : Int} (h : Fl.DecTxt s g l E) : 0 < Fl.mantN l l.length ∧ Fl.mantN l l.length + 1 < 18446744073709551616 := by
  refine ⟨Fl.mantN_pos h (List.length_pos_iff.2 h.ne) (Nat.le_refl _), ?_⟩
  have h1 := Fl.mantN_lt h.digs l.length
  have h2 : 10 ^ min l.length 19 ≤ 10 ^ 19 := Nat.pow_le_pow_right (by omega) (by omega)
  have h3 : (10 : Nat) ^ 19 = 10000000000000000000 := by decide
  omega
/-- At most nineteen digits, or noughts behind them: ParseFloat answers with the nearest number. -/
theorem parsefloat_short {s : ByteArray} {g : Bool} {l : List Nat} {E p : Int} (h : Fl.DecTxt s g l E) (ht : Fl.truncN l l.length = false) (hp : l.length + E - (min l.length 19 : Nat) = p) (hp0 : -345 ≤ p) (hp1 : p ≤ 310) {r : Nat} (near : Fl.Near (Fl.vN (Fl.mantN l l.length) p) (Fl.vD p) r) (hr : r < 9218868437227405312)
    (w : World) (B : Nat × Nat) (hT : TenPow w B) (hO : w.cell? ⟨8, 0, none⟩ = some (.bool true)) (hTab : TenTab w) (hw : 18 ≤ w.heap.size) :
    Calls Tryz.prog 55 #[.string s, .int .i64 64] w fun x w' => x = .returned (.tuple #[.float .f64 (Ieee.double.word g r), .nilIface]) ∧ Below w.heap.size w w' := by
  obtain ⟨m0, m1⟩ := mant_64 h
  refine pfloat_nil s _ w (fun w' => Below w.heap.size w w') ?_
  have RF := fun W => readfloat_any s g l E h W
  rw [hp, ht] at RF
  refine (atof_walk s g _ p m0 (by omega) hp0 hp1 w B hT hO hTab hw (special_txt s g l E h) RF).mono ?_
  rintro x w' ⟨r', v, n', hv, rfl, hb⟩
  obtain rfl := Fl.near_unique (Fl.vD_pos p) n' near
  rcases hv with rfl | ⟨rfl, _⟩
  · exact ⟨rfl, hb⟩
  · exact absurd hr (Nat.lt_irrefl _)
end Go.Proofs.YtjapgpmoojfhnaaGreatDoor

namespace Go.Proofs.YtjapgpmoojfhnaaGreatDoor
open Go.RowKit Go.Lib

end Go.Proofs.YtjapgpmoojfhnaaGreatDoor

namespace Go.Proofs.YtjapgpmoojfhnaaGreatDoor
open Go.RowKit Go.Lib

set_option maxHeartbeats 4000000 in
set_option maxRecDepth 100000 in
theorem readfloat_nought (w : World) : Calls Tryz.prog 189 #[.string ⟨#[48, 101, 48]⟩] w fun x w' => x = .returned (.tuple #[.int .u64 0, .int .i64 0, .bool false, .bool false, .bool false, .int .i64 3, .bool true]) ∧ w' = w := by
  obtain ⟨S, hS⟩ : ∃ S : ByteArray, (⟨#[48, 101, 48]⟩ : ByteArray) = S := ⟨_, rfl⟩
  have hs : S.size = 3 := by rw [← hS]; rfl
  have hb0 : S[0]'(by omega) = 48 := by subst hS; rfl
  have hb1 : S[1]'(by omega) = 101 := by subst hS; rfl
  have hb2 : S[2]'(by omega) = 48 := by subst hS; rfl
  have hse : S ≠ ByteArray.empty := fun he => by rw [he] at hs; cases hs
  rw [hS]
  clear hS
  go_enter Tryz.func189, Tryz.ntmps189
  go_wp2_with fail
  go_step3
  go_wp2_with fail
  refine (lower_e _).mono ?_
  rintro y w1 ⟨rfl, rfl⟩
  go_wp2_with fail
  go_step3
  go_wp2_with fail
  go_loopg [2, 5, 7, 9, 13, 14, 15, 16, 17, 18] 1 (fun f t2 t5 t7 t9 t13 t14 t15 t16 t17 _ wx => t2 = .int .u64 0 ∧ t5 = .bool false ∧ t9 = .bool false ∧ t13 = .bool false ∧ t15 = .int .i64 0 ∧ t16 = .int .i64 0 ∧ wx = w1 ∧ ((f = 1 ∧ t7 = .int .i64 0 ∧ t14 = .bool false ∧ t17 = .int .i64 0) ∨ (f = 0 ∧ t7 = .int .i64 1 ∧ t14 = .bool true ∧ t17 = .int .i64 (-1))))
  case atStart => exact ⟨rfl, rfl, rfl, rfl, rfl, rfl, rfl, .inl ⟨rfl, rfl, rfl, rfl⟩⟩
  case round =>
    obtain ⟨e2, e5, e9, e13, e15, e16, ew, h | h⟩ := hrel
    · obtain ⟨rfl, e7, e14, e17⟩ := h
      subst e2 e5 e7 e9 e13 e14 e15 e16 e17
      go_wp2_with fail
      go_roundg 0
      case measure => exact Nat.lt_succ_self _
      case rel => exact ⟨rfl, rfl, rfl, rfl, rfl, rfl, by first | rfl | exact ew, .inr ⟨rfl, rfl, rfl, rfl⟩⟩
    · obtain ⟨rfl, e7, e14, e17⟩ := h
      subst e2 e5 e7 e9 e13 e14 e15 e16 e17
      go_wp2_with fail
      refine (lower_e _).mono ?_
      rintro y w2 ⟨rfl, rfl⟩
      go_wp2_with fail
      go_loopg [7, 9, 20] 1 (fun f t7 t9 t20 wx => t9 = .bool false ∧ t20 = .int .i64 0 ∧ wx = w2 ∧ ((f = 1 ∧ t7 = .int .i64 2) ∨ (f = 0 ∧ t7 = .int .i64 3)))
      case atStart => exact ⟨rfl, rfl, rfl, .inl ⟨rfl, rfl⟩⟩
      case round =>
        obtain ⟨e9, e20, ew2, h | h⟩ := hrel
        · obtain ⟨rfl, e7⟩ := h
          subst e7 e9 e20
          go_wp2_with fail
          go_roundg 0
          case measure => exact Nat.lt_succ_self _
          case rel => exact ⟨rfl, rfl, by first | rfl | exact ew2, .inr ⟨rfl, rfl⟩⟩
        · obtain ⟨rfl, e7⟩ := h
          subst e7 e9 e20
          go_wp2_with fail
          rw [Exit.noGoto_ret]
          refine bodyPost_ret (v := .tuple #[.int .u64 0, .int .i64 0, .bool false, .bool false, .bool false, .int .i64 3, .bool true]) (by simp [results, Tryz.results189, go_sem]) rfl ?_
          exact ⟨rfl, by first | rfl | exact ew2.trans ew | exact ew2⟩
set_option maxHeartbeats 1000000 in
set_option maxRecDepth 100000 in
theorem atof_nought (w : World) (hO : w.cell? ⟨8, 0, none⟩ = some (.bool true)) : Calls Tryz.prog 165 #[.string ⟨#[48, 101, 48]⟩] w fun x w' => x = .returned (.tuple #[.float .f64 0, .int .i64 3, .nilIface]) ∧ w' = w := by
  have SP := Lib.hid (fun W => special_dig ⟨#[48, 101, 48]⟩ (by decide) (by decide) (by decide) W)
  have RF := Lib.hid (fun W => readfloat_nought W)
  have fb : ∀ W, (callFunc 198 #[.int .u64 0]).run Tryz.prog W = .ok (.value (.float .f64 0)) W := fun W => run_frombits2 0 W
  have o1 : bits .or .u64 0 0 = 0 := by decide
  obtain ⟨S, hS⟩ : ∃ S : ByteArray, (⟨#[48, 101, 48]⟩ : ByteArray) = S := ⟨_, rfl⟩
  rw [hS] at SP RF ⊢
  clear hS
  go_enter Tryz.func165, Tryz.ntmps165
  go_wp2_with fail
  refine (SP.out _).mono ?_
  rintro x w1 ⟨rfl, rfl⟩
  go_wp2_with fail
  refine (RF.out _).mono ?_
  rintro x w1 ⟨rfl, rfl⟩
  go_wp2_with fail
  refine (bool2u_any false _).mono ?_
  rintro x w1 ⟨rfl, rfl⟩
  go_wp2_with fail
  refine bodyPost_ret (v := .tuple #[.float .f64 0, .int .i64 3, .nilIface]) (by simp [results, Tryz.results165, go_sem]) rfl ?_
  exact ⟨rfl, rfl⟩
/-- ParseFloat at the text of nought. -/
theorem parsefloat_nought (w : World) (hO : w.cell? ⟨8, 0, none⟩ = some (.bool true)) : Calls Tryz.prog 55 #[.string ⟨#[48, 101, 48]⟩, .int .i64 64] w fun x w' => x = .returned (.tuple #[.float .f64 0, .nilIface]) ∧ w' = w :=
  pfloat_nil ⟨#[48, 101, 48]⟩ 0 w (fun w' => w' = w) (atof_nought w hO)
end Go.Proofs.YtjapgpmoojfhnaaGreatDoor

namespace Go.Proofs.YtjapgpmoojfhnaaGreatDoor
open Go.RowKit Go.Lib

/-- What the laws on decimals read. -/
structure Laid2 (w : World) (B : Nat × Nat) : Prop where
  laid : Laid w
  pow : TenPow w B
  opt : w.cell? ⟨8, 0, none⟩ = some (.bool true)
  tab : TenTab w
  lt : B.1 < w.heap.size
theorem Laid2.size {w : World} {B : Nat × Nat} (h : Laid2 w B) : 18 ≤ w.heap.size := h.laid.2.1
theorem Laid2.on {w w' : World} {B : Nat × Nat} (h : Laid2 w B) (hb : Below w.heap.size w w') : Laid2 w' B := by
  have hs := h.size
  have hs2 := hb.size
  have hl := h.lt
  refine ⟨h.laid.on hb, ⟨(hb.cell (by show 9 < _; omega)).trans h.pow.info, (hb.cell (by show 12 < _; omega)).trans h.pow.ptr, fun k hk => (hb.cell (by show B.1 < _; omega)).trans (h.pow.row k hk)⟩, (hb.cell (by show 8 < _; omega)).trans h.opt, h.tab.on hs hb, by omega⟩
set_option maxHeartbeats 1000000 in
set_option maxRecDepth 100000 in
theorem nearest_of (d D : ByteArray) (F : Nat) (hF : F < 18446744073709551616) (hr : F % 9223372036854775808 ≠ 9218868437227405312) (B : Nat × Nat)
    (VA : ∀ W, Laid W → Calls Tryz.prog 54 #[.string d] W fun x w' => x = .returned (.bool true) ∧ Below W.heap.size W w')
    (PF : ∀ W, Laid2 W B → Calls Tryz.prog 55 #[.string d, .int .i64 64] W fun x w' => x = .returned (.tuple #[.float .f64 F, .nilIface]) ∧ Below W.heap.size W w')
    (EX : ∀ W, Laid W → Calls Tryz.prog 47 #[.float .f64 F] W fun x w' => x = .returned (.string D) ∧ Below W.heap.size W w') (w : World) (hL : Laid2 w B) :
    Calls Tryz.prog 20 #[.string d] w fun x w' => x = .returned (.tuple #[.string ⟨(Fl.txt F).toArray⟩, .bool (d.toList == D.toList), .int .i64 0]) ∧ Below w.heap.size w w' := by
  have II := fun W => isinf_any F W hF
  have i0 : (F % 9223372036854775808 == 9218868437227405312) = false := by rw [beq_eq_false_iff_ne]; exact hr
  rw [i0] at II
  have TX := Lib.hid (fun W hW => text_any F hF W hW)
  obtain ⟨T, hT⟩ : ∃ T : ByteArray, (⟨(Fl.txt F).toArray⟩ : ByteArray) = T := ⟨_, rfl⟩
  rw [hT]
  have II := Lib.hid II
  have VA := Lib.hid VA
  have PF := Lib.hid PF
  have EX := Lib.hid EX
  have HL := Lib.hid hL
  clear hL hF hr i0
  go_enter Tryz.func20, Tryz.ntmps20
  go_wp2_with fail
  refine (VA.out _ HL.out.laid).mono ?_
  rintro x w1 ⟨rfl, hb1⟩
  go_wp2_with fail
  refine (PF.out _ (HL.out.on hb1)).mono ?_
  rintro x w2 ⟨rfl, hb2⟩
  have hb2 := b_trans hb1 hb2
  go_wp2_with fail
  refine (II.out _).mono ?_
  rintro x w3 ⟨rfl, rfl⟩
  go_wp2_with fail
  refine (TX.out _ (HL.out.laid.on hb2)).mono ?_
  rintro x w4 ⟨rfl, hb4⟩
  have hb4 := b_trans hb2 hb4
  rw [hT]
  go_wp2_with fail
  refine (EX.out _ (HL.out.laid.on hb4)).mono ?_
  rintro x w5 ⟨rfl, hb5⟩
  have hb5 := b_trans hb4 hb5
  go_wp2_with fail
  refine bodyPost_ret (v := .tuple #[.string T, .bool (d.toList == D.toList), .int .i64 0]) (by simp [results, Tryz.results20, go_sem]) rfl ?_
  exact ⟨rfl, hb5⟩
end Go.Proofs.YtjapgpmoojfhnaaGreatDoor

namespace Go.Proofs.YtjapgpmoojfhnaaGreatDoor
open Go.RowKit Go.Lib

theorem f3_trans {A B C : Prop} {a W W' : World} (h : A ∧ B ∧ C ∧ Below a.heap.size a W) (hb : Below W.heap.size W W') : Below a.heap.size a W' := h.2.2.2.trans (hb.mono h.2.2.2.size)
theorem box_dec (g : Bool) (D : ByteArray) (e : Int) (w : World) : ∃ (w2 : World) (X : Nat), w.alloc (.cells #[.bool g, .string D, .int .i64 e] 37) = w2 ∧ w.heap.size = X ∧ Below w.heap.size w w2 ∧
    ∀ W, Below w2.heap.size w2 W → W.cell? ⟨X, 0, none⟩ = some (.bool g) ∧ W.cell? ⟨X, 1, none⟩ = some (.string D) ∧ W.cell? ⟨X, 2, none⟩ = some (.int .i64 e) ∧ Below w2.heap.size w2 W := by
  refine ⟨_, _, rfl, rfl, (Below.refl _ _).alloc (Nat.le_refl _) _, fun W hW => ?_⟩
  have h1 := (hW.block w.heap.size (by simp)).trans (heap_alloc_new w _)
  exact ⟨at_block h1 0 _ rfl, at_block h1 1 _ rfl, at_block h1 2 _ rfl, hW⟩
set_option maxHeartbeats 2000000 in
set_option maxRecDepth 100000 in
theorem dectext21 (g : Bool) (c : Nat) (e : Int) (w : World) (hc : (decDigits c).length ≤ 5000) (he : -2000 ≤ e ∧ e ≤ 2000) :
    Calls Tryz.prog 21 #[.agg #[.bool g, .string ⟨(decDigits c).toArray⟩, .int .i64 e]] w fun x w' => x = .returned (.string ⟨(Fl.expB g c e).toArray⟩) ∧ Below w.heap.size w w' := by
  obtain ⟨D, hD⟩ : ∃ D : ByteArray, ⟨(decDigits c).toArray⟩ = D := ⟨_, rfl⟩
  obtain ⟨I, hI⟩ : ∃ I : ByteArray, ⟨(itoa e).toArray⟩ = I := ⟨_, rfl⟩
  rw [hD]
  obtain ⟨w2, X, hw2, hX, hb2, hcells⟩ := box_dec g D e w
  have SM := Lib.hid (fun W => small_any e W (by omega))
  rw [hI] at SM
  have hDs : D.size ≤ 5000 := by rw [← hD, str_size]; exact hc
  have hIs : I.size ≤ 5 := by rw [← hI]; exact Dc.itoa_len (by omega) (by omega)
  have hadd1 := fun W => run_string_add_sum (P := Tryz.prog) (w := W) D ⟨#[101]⟩ (by show D.size + 1 ≤ _; omega)
  have hadd2 := fun W => run_string_add_sum (P := Tryz.prog) (w := W) (D ++ ⟨#[101]⟩) I (by rw [ByteArray.size_append]; show D.size + 1 + I.size ≤ _; omega)
  have hadd3 := fun W => run_string_add_sum (P := Tryz.prog) (w := W) ⟨#[45]⟩ (D ++ ⟨#[101]⟩ ++ I) (by rw [ByteArray.size_append, ByteArray.size_append]; show 1 + (D.size + 1 + I.size) ≤ _; omega)
  have HDI := Lib.hid (And.intro hD hI)
  have HC := Lib.hid hcells
  have HW2 := Lib.hid hw2
  have HX := Lib.hid hX
  have hd2 : Below w2.heap.size w2 w2 := Below.refl _ _
  obtain ⟨x0, x1, x2, _⟩ := hcells w2 hd2
  clear hcells hw2 hX hD hI hDs hIs hc he
  go_enter Tryz.func21, Tryz.ntmps21
  go_upto_region 1 with fail
  rw [HW2.out, HX.out]
  go_region_held3 (fun W => W.cell? ⟨X, 0, none⟩ = some (.bool g) ∧ W.cell? ⟨X, 1, none⟩ = some (.string D) ∧ W.cell? ⟨X, 2, none⟩ = some (.int .i64 e) ∧ Below w2.heap.size w2 W)
    ((refine HC.out _ ?_; first | assumption | exact b_drew hd2 | exact b_drew (by assumption)))
    (first | (go_at_call 51; refine (SM.out _).mono ?_; rintro x w5 ⟨rfl, hb5⟩; have hb5' := f3_trans (by assumption) hb5))
  clear x0 x1 x2
  obtain ⟨x0, x1, x2, _⟩ := HC.out w5 hb5'
  have hbz : Below w.heap.size w w5 := hb2.trans (hb5'.mono hb2.size)
  clear hb5
  cases g with
  | true =>
    go_wp2_with fail
    go_ret
    refine ⟨?_, hbz⟩
    rw [show (⟨#[101]⟩ : ByteArray) = ⟨([101] : List UInt8).toArray⟩ from rfl, lit_45, ← HDI.out.1, ← HDI.out.2, str_append, str_append, str_append]
    simp [Fl.expB, Dc.sgnB]
  | false =>
    go_wp2_with fail
    go_ret
    refine ⟨?_, hbz⟩
    rw [show (⟨#[101]⟩ : ByteArray) = ⟨([101] : List UInt8).toArray⟩ from rfl, ← HDI.out.1, ← HDI.out.2, str_append, str_append]
    simp [Fl.expB, Dc.sgnB]
end Go.Proofs.YtjapgpmoojfhnaaGreatDoor

namespace Go.Proofs.YtjapgpmoojfhnaaGreatDoor
open Go.RowKit Go.Lib

/-- A block whose first cells are a row, and that may be written. -/
def Row (w : World) (g : Nat) (t : TypeId) (cap : Nat) (xs : List Value) : Prop := ∃ cur, w.heap[g]? = some (.cells cur t (0, 0)) ∧ cur.size = cap ∧ xs.length ≤ cap ∧ cur.toList.take xs.length = xs
section
variable {w w' : World} {g cap : Nat} {t : TypeId} {xs : List Value}
theorem Row.at_ (h : Row w g t cap xs) {i : Nat} {v : Value} (hv : xs[i]? = some v) : w.cell? ⟨g, i, none⟩ = some v := by
  obtain ⟨cur, hg, h1, h2, h3⟩ := h
  refine at_block hg i v ?_
  have hi : i < xs.length := (List.getElem?_eq_some_iff.1 hv).1
  rw [← h3, List.getElem?_take, if_pos hi] at hv
  simpa using hv
theorem Row.free (h : Row w g t cap xs) (i : Nat) : w.frozen? ⟨g, i, none⟩ = false := by
  obtain ⟨cur, hg, _⟩ := h
  exact free_block hg i
theorem Row.below {B : Nat} (h : Row w g t cap xs) (hb : Below B w w') (hg : g < B) : Row w' g t cap xs := by
  obtain ⟨cur, hc, hr⟩ := h
  exact ⟨cur, (hb.block g hg).trans hc, hr⟩
theorem Row.lt (h : Row w g t cap xs) : g < w.heap.size := by
  obtain ⟨cur, hg, _⟩ := h
  exact lt_of_block hg
theorem Row.on (h : Row w g t cap xs) (hb : Below w.heap.size w w') : Row w' g t cap xs := h.below hb h.lt
theorem Row.set (h : Row w g t cap xs) {i : Nat} (_hi : i < xs.length) (v : Value) : Row (w.setCell ⟨g, i, none⟩ v) g t cap (xs.set i v) := by
  obtain ⟨cur, hg, h1, h2, h3⟩ := h
  refine ⟨cur.setIfInBounds i v, block_set hg i v, by simp [h1], by simpa using h2, ?_⟩
  rw [List.length_set, Array.toList_setIfInBounds, List.take_set, h3]
theorem Row.reads (h : Row w g t cap xs) : Reads w w.heap.size (some ⟨g, 0, none⟩) xs.length xs :=
  ⟨rfl, fun _ => ⟨g, 0, rfl, h.lt, fun j u hu => by rw [Nat.zero_add]; exact h.at_ hu⟩⟩
end
theorem alloc_kp {w : World} {k : Nat} {o b : Obj} (h : w.heap[k]? = some b) : (w.alloc o).heap[k]? = some b := by
  rw [Below.heap_alloc _ _ _ (lt_of_block h)]; exact h
theorem new_kp (w : World) (cs : Array Value) (t : TypeId) {k : Nat} (hk : k = w.heap.size) : (w.alloc (.cells cs t)).heap[k]? = some (.cells cs t (0, 0)) := by
  subst hk; exact heap_alloc_new w _
theorem Reads.kept {w w' : World} {A : Option Addr} {n : Nat} {xs : List Value} (h : Reads w w.heap.size A n xs) (hs : w.heap.size ≤ w'.heap.size) (hk : ∀ b off, A = some ⟨b, off, none⟩ → b < w.heap.size → w'.heap[b]? = w.heap[b]?) : Reads w' w'.heap.size A n xs := by
  refine ⟨h.1, fun hn => ?_⟩
  obtain ⟨b, off, e, hb, hc⟩ := h.2 hn
  refine ⟨b, off, e, by omega, fun j u hu => ?_⟩
  have h1 := hc j u hu
  simp only [World.cell?, hk b off e hb] at h1 ⊢
  exact h1
theorem i64s_set' (l : List Nat) (q x : Nat) : i64s (l.set q x) = (i64s l).set q (.int .i64 (x : Int)) := by simp [i64s, List.map_set]

theorem dv_set : ∀ {l : List Nat} {j x : Nat}, l[j]? = some x → ∀ y, dv (l.set j (x + y)) = dv l + 10 ^ j * y
  | [], _, _, h, _ => by simp at h
  | d :: l, 0, _, h, y => by
    simp at h
    subst h
    rw [List.set_cons_zero, dv, dv, Nat.pow_zero]
    omega
  | d :: l, j + 1, _, h, y => by
    rw [List.getElem?_cons_succ] at h
    rw [List.set_cons_succ, dv, dv, dv_set h y, Nat.pow_succ, Nat.mul_add, Nat.mul_comm (10 ^ j) 10, Nat.mul_assoc]
    omega
theorem dv_rep (n : Nat) : dv (List.replicate n 0) = 0 := dv_zeros _ fun _ hx => (List.mem_replicate.1 hx).2
theorem dv_take_succ {l : List Nat} {i x : Nat} (hx : l[i]? = some x) : dv (l.take (i + 1)) = dv (l.take i) + 10 ^ i * x := by
  have hk : i < l.length := by
    rcases Nat.lt_or_ge i l.length with h1 | h1
    · exact h1
    · rw [List.getElem?_eq_none h1] at hx; cases hx
  rw [List.take_add_one, hx, dv_append, List.length_take, Nat.min_eq_left (by omega)]
  simp [dv]
/-- One product added to its column. -/
theorem mul_step {s la lb : List Nat} {i k x y u : Nat} (hy : lb[k]? = some y) (hu : s[i + k]? = some u) (h : dv s = dv (la.take i) * dv lb + 10 ^ i * (x * dv (lb.take k))) :
    dv (s.set (i + k) (u + x * y)) = dv (la.take i) * dv lb + 10 ^ i * (x * dv (lb.take (k + 1))) := by
  rw [dv_set hu, h, dv_take_succ hy, Nat.mul_add x, Nat.mul_add (10 ^ i), Nat.add_assoc, Nat.pow_add, Nat.mul_assoc, Nat.mul_left_comm x]
theorem mul_row {s la lb : List Nat} {i x : Nat} (hx : la[i]? = some x) (h : dv s = dv (la.take i) * dv lb + 10 ^ i * (x * dv (lb.take lb.length))) : dv s = dv (la.take (i + 1)) * dv lb := by
  rw [h, List.take_length, dv_take_succ hx, Nat.add_mul, Nat.mul_assoc]
theorem mul_begin {s la lb : List Nat} {i x : Nat} (h : dv s = dv (la.take i) * dv lb) : dv s = dv (la.take i) * dv lb + 10 ^ i * (x * dv (lb.take 0)) := by
  rw [h, List.take_zero, dv, Nat.mul_zero, Nat.mul_zero, Nat.add_zero]
/-- One column carried on. -/
theorem carry_step {s o : List Nat} {i c x : Nat} (hx : s[i]? = some x) (ho : o.length = i) (h : dv o + 10 ^ i * c = dv (s.take i)) : dv (o ++ [(c + x) % 10]) + 10 ^ (i + 1) * ((c + x) / 10) = dv (s.take (i + 1)) := by
  rw [dv_take_succ hx, ← h, dv_append, ho, Nat.pow_succ, Nat.mul_assoc]
  have e : dv [(c + x) % 10] = (c + x) % 10 := by simp [dv]
  have e2 : 10 ^ i * ((c + x) % 10) + 10 ^ i * (10 * ((c + x) / 10)) = 10 ^ i * c + 10 ^ i * x := by
    rw [← Nat.mul_add, ← Nat.mul_add]
    congr 1
    omega
  rw [e]
  omega
theorem carry_end {s o la lb : List Nat} {n c : Nat} (hs : s.length = n) (hn : la.length + lb.length ≤ n) (ha : ∀ x ∈ la, x ≤ 9) (hb : ∀ x ∈ lb, x ≤ 9) (h : dv o + 10 ^ n * c = dv (s.take n)) (hv : dv s = dv la * dv lb) : dv o = dv la * dv lb := by
  rw [List.take_of_length_le (by omega), hv] at h
  have h1 := dv_lt ha
  have h2 := dv_lt hb
  have h3 : dv la * dv lb < 10 ^ (la.length + lb.length) := by
    rw [Nat.pow_add]
    exact Nat.mul_lt_mul_of_lt_of_le h1 (Nat.le_of_lt h2) (Nat.pow_pos (by decide))
  have h4 : 10 ^ (la.length + lb.length) ≤ 10 ^ n := Nat.pow_le_pow_right (by decide) hn
  have hc : c = 0 := by
    rcases Nat.eq_zero_or_pos c with h5 | h5
    · exact h5
    · have := Nat.mul_le_mul_left (10 ^ n) h5
      omega
  rw [hc, Nat.mul_zero] at h
  omega
end Go.Proofs.YtjapgpmoojfhnaaGreatDoor
