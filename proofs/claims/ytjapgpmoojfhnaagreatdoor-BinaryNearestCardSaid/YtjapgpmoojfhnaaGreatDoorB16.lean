/- product: the digits of m * base^n. finite, scaled, next at one digit, and the test of the interval. -/
import Derived.Test.YtjapgpmoojfhnaaGreatDoorB14
import Derived.Test.YtjapgpmoojfhnaaGreatDoorB15
set_option maxHeartbeats 16000000
set_option maxRecDepth 100000
set_option linter.unusedSimpArgs false
set_option linter.unusedVariables false
namespace Go.Proofs.YtjapgpmoojfhnaaGreatDoor
open Go.RowKit Go.Lib
theorem wstr (B b : Nat) (l : List UInt8) (s : ByteArray) (w : World) (h : Lib.IsBuilder 159 5 B b (Lib.byteCells l) w) (hlen : l.length + s.size ≤ 140737488355328) (hBw : B ≤ w.heap.size) :
 Calls Tryz.prog 121 #[.pointer (some ⟨b, 0, none⟩), .string s] w fun e w' => e = .returned (.tuple #[.int .i64 s.size, .nilIface]) ∧ Lib.IsBuilder 159 5 B b (Lib.byteCells (l ++ s.data.toList)) w' ∧ Below B w w' := by
 have h := Any.Builder_WriteString { Tryz.lays105 with } Tryz.Builder_Extra_105 B b (Lib.byteCells l) s w h (by rw [Lib.byteCells_length]; exact hlen) hBw
 refine h.mono ?_
 rintro e w' ⟨rfl, h1, h2⟩
 refine ⟨rfl, .inr ?_, h2⟩
 rw [Lib.strCells_eq] at h1
 unfold Lib.byteCells at h1 ⊢
 rw [List.map_append]
 exact h1
def u64s (l : List Nat) : List Value := l.map fun (x : Nat) => Value.int .u64 (x : Int)
theorem u64s_get {l : List Nat} {k x : Nat} (h : l[k]? = some x) : (u64s l)[k]? = some (.int .u64 (x : Int)) := by simp [u64s, h]
theorem info22 : (Tryz.prog.info? 22).map (fun i => (i.zero, i.size, i.bytes)) = some (some (.int .u64 0), 1, 8) := by kernel_rfl
theorem pass_take {b c : Nat} {d : List Nat} {i x : Nat} (h : d[i]? = some x) :
 Fl.passL b c (d.take (i + 1)) = Fl.passL b c (d.take i) ++ [(Fl.passC b c (d.take i) + x * b) % 1000000000] ∧ Fl.passC b c (d.take (i + 1)) = (Fl.passC b c (d.take i) + x * b) / 1000000000 := by
 induction d generalizing c i with
 | nil => simp at h
 | cons y d ih =>
   cases i with
   | zero =>
     simp at h
     subst h
     simp [Fl.passL, Fl.passC]
   | succ i =>
     simp at h
     have := ih (c := (c + y * b) / 1000000000) h
     simp only [List.take_succ_cons, Fl.passL, Fl.passC, List.cons_append]
     exact ⟨by rw [this.1], this.2⟩
theorem limbs_take {d : List Nat} (h : Fl.Limbs d) (i : Nat) : Fl.Limbs (d.take i) := fun x hx => h x (List.mem_of_mem_take hx)
def midL (b : Nat) (d : List Nat) (i : Nat) : List Nat := Fl.passL b 0 (d.take i) ++ d.drop i
theorem mid_get {b i x : Nat} {d : List Nat} (hx : d[i]? = some x) : (midL b d i)[i]? = some x := by
 have hi : i < d.length := by
  rcases Nat.lt_or_ge i d.length with h | h
  · exact h
  · rw [List.getElem?_eq_none h] at hx; cases hx
 unfold midL
 rw [List.getElem?_append_right (by rw [Fl.pass_len, List.length_take]; omega), Fl.pass_len, List.length_take, Nat.min_eq_left (by omega), Nat.sub_self, List.getElem?_drop, Nat.add_zero]
 exact hx
theorem mid_set {b i x : Nat} {d : List Nat} (hx : d[i]? = some x) : (u64s (midL b d i)).set i (.int .u64 (((Fl.passC b 0 (d.take i) + x * b) % 1000000000 : Nat) : Int)) = u64s (midL b d (i + 1)) := by
 have hi : i < d.length := by
  rcases Nat.lt_or_ge i d.length with h | h
  · exact h
  · rw [List.getElem?_eq_none h] at hx; cases hx
 have e : d.drop i = x :: d.drop (i + 1) := by
  rw [List.drop_eq_getElem_cons hi]
  congr 1
  rw [List.getElem?_eq_getElem hi] at hx
  exact Option.some.inj hx
 unfold midL
 rw [(pass_take hx).1, e]
 unfold u64s
 rw [← List.map_set]
 congr 1
 rw [List.set_append_right _ _ (by rw [Fl.pass_len, List.length_take]; omega), Fl.pass_len, List.length_take, Nat.min_eq_left (by omega), Nat.sub_self, List.set_cons_zero, List.append_assoc]
 rfl
theorem builder_below {T e : TypeId} {B b : Nat} {bs : List Value} {w w' : World} (h : Lib.IsBuilder T e B b bs w) (hb : Below w.heap.size w w') : Lib.IsBuilder T e B b bs w' := by
 have go : ∀ p, Lib.BuilderAt T e B b p bs w → Lib.BuilderAt T e B b p bs w' := by
  rintro p ⟨h1, v, h2, h3, h4⟩
  exact ⟨h1, v, (hb.block b (lt_of_block h2)).trans h2, own_below h3 hb, h4⟩
 rcases h with h | h
 · exact .inl (go _ h)
 · exact .inr (go _ h)
theorem limbB_step {d : List Nat} {i x : Nat} (h : d[i]? = some x) : Fl.limbB (d.drop i) = (Fl.limbB (d.drop (i + 1)) ++ repeatL [48] (9 - (decDigits x).length)) ++ decDigits x := by
 have hi : i < d.length := by
  rcases Nat.lt_or_ge i d.length with h' | h'
  · exact h'
  · rw [List.getElem?_eq_none h'] at h; cases h
 have e : d.drop i = x :: d.drop (i + 1) := by
  rw [List.drop_eq_getElem_cons hi]
  congr 1
  rw [List.getElem?_eq_getElem hi] at h
  exact Option.some.inj h
 rw [e]
 unfold Fl.limbB Fl.pad9
 simp
theorem limbB_len {d : List Nat} (h : Fl.Limbs d) : (Fl.limbB d).length = 9 * d.length := by
 rw [Fl.limbB_is h]
 simp [Fl.digB8, Fl.fix_len]
theorem product_any (m base n : Nat) (w : World) (hL : Laid w) (hm : m < 18446744073709551616) (hb : base ≤ 10) (hn : n ≤ 2000) (h0 : m * base ^ n ≠ 0) :
 Calls Tryz.prog 117 #[.int .u64 (m : Int), .int .u64 (base : Int), .int .i64 (n : Int)] w fun x w' => x = .returned (.string ⟨(decDigits (m * base ^ n)).toArray⟩) ∧ Below w.heap.size w w' := by
 obtain ⟨i0, hi, hz0, hz1, hz2⟩ := info_parts info22
 obtain ⟨D, hD⟩ : ∃ D, Fl.prodL base n (Fl.firstL m) = D := ⟨_, rfl⟩
 have hDv : Fl.limbV D = m * base ^ n := by rw [← hD, Fl.prod_val, Fl.first_val]
 have hDl : Fl.Limbs D ∧ D.length ≤ n + 3 := by
  rw [← hD]
  have h := Fl.prod_limbs hb n (Fl.firstL m) (Fl.first_limbs hm)
  refine ⟨h.1, ?_⟩
  have h2 := h.2
  rw [show (Fl.firstL m).length = 3 from rfl] at h2
  omega
 obtain ⟨V, hV⟩ : ∃ V, m * base ^ n = V := ⟨_, rfl⟩
 rw [hV] at hDv h0 ⊢
 obtain ⟨x0, hx0⟩ : ∃ x, m % 1000000000 = x := ⟨_, rfl⟩
 obtain ⟨x1, hx1⟩ : ∃ x, m / 1000000000 % 1000000000 = x := ⟨_, rfl⟩
 obtain ⟨x2, hx2⟩ : ∃ x, m / 1000000000 / 1000000000 = x := ⟨_, rfl⟩
 have e0 : (m : Int) % 1000000000 = (x0 : Int) := by omega
 have e1 : (m : Int) / 1000000000 % 1000000000 = (x1 : Int) := by omega
 have e2 : (m : Int) / 1000000000 / 1000000000 = (x2 : Int) := by omega
 have hfirst : Fl.firstL m = [x0, x1, x2] := by unfold Fl.firstL; rw [hx0, hx1, hx2]
 have hlim := Fl.first_limbs hm
 rw [hfirst] at hD hlim
 obtain ⟨X, hX⟩ : ∃ X, w.heap.size = X := ⟨_, rfl⟩
 have HX := Lib.hid hX
 have HL := Lib.hid hL
 have HD := Lib.hid (And.intro hDv (And.intro hDl.1 (And.intro hDl.2 h0)))
 have HD1 := Lib.hid hD
 have HLM := Lib.hid hlim
 clear hD hDv hDl hx0 hx1 hx2 hfirst h0 hlim hV hL
 go_enter Tryz.func117, Tryz.ntmps117
 go_upto_region 2 with fail
 have hown0 : (w.alloc (.cells #[.int .u64 (x0 : Int), .int .u64 (x1 : Int), .int .u64 (x2 : Int)] 22)).ownsRow X 22 1 (.slice (some ⟨X, 0, none⟩) 3 3) 3 (u64s [x0, x1, x2]) := by
  rw [← hX]
  exact ⟨rfl, .inr ⟨w.heap.size, 3, #[.int .u64 (x0 : Int), .int .u64 (x1 : Int), .int .u64 (x2 : Int)], rfl, Nat.le_refl _, heap_alloc_new w _, Nat.le_refl _, by unfold maxLen; decide, rfl, rfl⟩⟩
 have hb0 : Below X w (w.alloc (.cells #[.int .u64 (x0 : Int), .int .u64 (x1 : Int), .int .u64 (x2 : Int)] 22)) := by
  rw [← hX]; exact (Below.refl _ _).alloc (Nat.le_refl _) _
 obtain ⟨w1, hw1⟩ : ∃ w1, w.alloc (.cells #[.int .u64 (x0 : Int), .int .u64 (x1 : Int), .int .u64 (x2 : Int)] 22) = w1 := ⟨_, rfl⟩
 rw [hw1] at hown0 hb0
 rw [hw1]
 clear hw1 hX e0 e1 e2 hm
 go_loopg [2, 7, 8, 9, 10] n (fun f t2 t7 _ _ _ wx => ∃ (k : Nat) (d : List Nat), t2 = .int .i64 (k : Int) ∧ k ≤ f ∧ k ≤ 2000 ∧ wx.ownsRow X 22 1 t7 d.length (u64s d) ∧ Fl.Limbs d ∧ Fl.prodL base k d = D ∧ 0 < d.length ∧ d.length + k ≤ 2003 ∧ Below X w wx)
 case atStart => exact ⟨n, [x0, x1, x2], rfl, Nat.le_refl _, hn, hown0, HLM.out, HD1.out, by simp, by simp; omega, hb0⟩
 case round =>
  obtain ⟨k, d, rfl, hkf, hk2, hown, hlm, hpr, hd0, hdl, hbx⟩ := hrel
  by_cases hk0 : k = 0
  · subst hk0
    obtain ⟨wA, hwA⟩ : ∃ W, W = wr := ⟨_, rfl⟩
    subst hwA
    have hdD : d = D := by rw [← hpr, Fl.prodL]
    subst hdD
    obtain ⟨l, hl⟩ : ∃ l, d.length = l := ⟨_, rfl⟩
    rw [hl] at hown hd0 hdl
    obtain ⟨g, cp, hv, hXg, hglt⟩ := hown.form hd0
    subst hv
    have hXs := hbx.size
    have hXw := HX.out
    obtain ⟨Bb, hBb⟩ : ∃ Bb, wA.heap.size = Bb := ⟨_, rfl⟩
    have hfresh := Lib.fresh_isBuilder 159 5 wA
    have hb2 : Below Bb wA (wA.alloc (.cells #[.pointer none, .slice none 0 0] 159)) := by rw [← hBb]; exact (Below.refl _ _).alloc (Nat.le_refl _) _
    have hs2 : (wA.alloc (.cells #[.pointer none, .slice none 0 0] 159)).heap.size = Bb + 1 := by rw [← hBb]; simp
    rw [hBb] at hfresh
    have HOWN := Lib.hid hown
    have HLL := Lib.hid (And.intro hlm (And.intro hl hpr))
    have hXB : X ≤ Bb := by omega
    have hgB : g < Bb := by omega
    have HBX := Lib.hid hbx
    clear hlm hl hpr hown hXs hXw
    go_upto_region 20 with fail
    obtain ⟨w2, hw2⟩ : ∃ w2, wA.alloc (.cells #[.pointer none, .slice none 0 0] 159) = w2 := ⟨_, rfl⟩
    rw [hw2] at hfresh hb2 hs2
    rw [hw2]
    clear hw2
    have HBW := Lib.hid hBb
    have c9 : IntKind.i64.wrap ((l : Int) - 1) = (l : Int) - 1 := IntWalk.i64_in _ (by omega)
    clear hBb
    go_wp2_with fail
    go_loopg [12, 13] l (fun f t12 _ wx => ∃ (i : Nat) (I : Int), t12 = .int .i64 I ∧ I + 1 = (i : Int) ∧ i = f ∧ i ≤ l ∧ Lib.IsBuilder 159 5 Bb Bb (Lib.byteCells (Fl.limbB (d.drop i))) wx ∧ Bb < wx.heap.size ∧ Below Bb wA wx)
    case atStart =>
     refine ⟨l, (l : Int) - 1, rfl, by omega, rfl, Nat.le_refl _, ?_, by omega, hb2⟩
     rw [List.drop_eq_nil_of_le (by have := HLL.out.2.1; omega)]
     exact hfresh
    case round =>
     obtain ⟨i, I, rfl, hI, hif, hil, hbl, hsz, hbB⟩ := hrel
     have hL1 := HL.out.on (by rw [HX.out]; exact HBX.out)
     have hL2 := hL1.on (by rw [HBW.out]; exact hbB)
     have HL2 := Lib.hid hL2
     by_cases hi0 : i = 0
     · obtain rfl : I = -1 := by omega
       subst hi0
       rw [List.drop_zero] at hbl
       have ST := Lib.hid (Tryz.Builder_String_any Bb Bb (Fl.limbB d) wr hbl (by omega))
       have TR := Lib.hid (fun W => Tryz.strings_TrimLeft_one ⟨(Fl.limbB d).toArray⟩ 48 (by decide) W)
       have HE := Lib.hid (Fl.trim_limb HLL.out.1 (by rw [HD.out.1]; exact HD.out.2.2.2))
       have HBF := Lib.hid hbB
       clear hL1 hL2 hI hif hil hbl hsz hbB
       go_wp2_with fail
       refine (ST.out).mono ?_
       rintro x w5 ⟨rfl, hb5⟩
       go_wp2_with fail
       refine (TR.out _).mono ?_
       rintro x w6 ⟨rfl, rfl⟩
       go_wp2_with fail
       go_ret
       refine ⟨?_, ?_⟩
       · have e : (⟨(trimLeftB (⟨(Fl.limbB d).toArray⟩ : ByteArray).data.toList 48).toArray⟩ : ByteArray) = ⟨(decDigits V).toArray⟩ := by
          show (⟨(trimLeftB (Fl.limbB d) 48).toArray⟩ : ByteArray) = _
          rw [HE.out, HD.out.1]
         exact congrArg (fun z => Ending.returned (.string z)) e
       · rw [HX.out]
         exact HBX.out.trans ((HBF.out.trans hb5).mono hXB)
     · obtain ⟨j, hj⟩ : ∃ j, i = j + 1 := ⟨i - 1, by omega⟩
       subst hj
       obtain rfl : I = (j : Int) := by omega
       obtain ⟨hlm, hll, _⟩ := HLL.out
       obtain ⟨x, hx⟩ : ∃ x, d[j]? = some x := ⟨d[j]'(by omega), List.getElem?_eq_getElem (by omega)⟩
       have hx9 : x < 1000000000 := hlm x (List.mem_of_getElem? hx)
       have hcell := HOWN.out.cellAt j (by omega)
       rw [u64s_get hx] at hcell
       have hcell := (hbB.cell (p := ⟨g, j, none⟩) hgB).trans hcell
       have FU := fun W hW => formatUint_any x (by omega) W hW
       have htl := (Fl.pad_is hx9).2
       have hstep := limbB_step hx
       have hblen : (Fl.limbB (d.drop (j + 1))).length = 9 * (l - (j + 1)) := by
        rw [limbB_len (fun y hy => hlm y (List.mem_of_mem_drop hy)), List.length_drop, hll]
       obtain ⟨T, hT⟩ : ∃ T, decDigits x = T := ⟨_, rfl⟩
       rw [hT] at FU htl hstep
       obtain ⟨ts, hts⟩ : ∃ ts, T.length = ts := ⟨_, rfl⟩
       rw [hts] at htl hstep
       obtain ⟨z, hz⟩ : ∃ z, 9 - ts = z := ⟨_, rfl⟩
       rw [hz] at hstep
       obtain ⟨TS, hTS⟩ : ∃ TS : ByteArray, (⟨T.toArray⟩ : ByteArray) = TS := ⟨_, rfl⟩
       rw [hTS] at FU
       have hTSs : TS.size = ts := by rw [← hTS, str_size, hts]
       have hTSl : TS.data.toList = T := by rw [← hTS]
       have RP := Lib.hid (fun W => Tryz.strings_Repeat ⟨#[48]⟩ z W (by omega) (by show 1 * z ≤ _; omega))
       have q1 : (TS.size : Int) = (ts : Int) := by rw [hTSs]
       have q2 : IntKind.i64.wrap (9 - (ts : Int)) = (z : Int) := by rw [show 9 - (ts : Int) = (z : Int) by omega]; exact IntWalk.i64_in _ (by omega)
       have FU := Lib.hid FU
       have HQ := Lib.hid (And.intro hTSs (And.intro hTSl (And.intro hts (And.intro hstep (And.intro hblen (And.intro hbl (And.intro hbB hz)))))))
       have hzl : z ≤ 9 := by omega
       clear hL1 hL2 hI hi0 hlm hll hx hx9 hstep hblen hT hts hz hTS hTSs hTSl hbl hbB
       go_wp2_with fail
       refine (FU.out _ HL2.out).mono ?_
       rintro y w5 ⟨rfl, hb5⟩
       go_wp2_with fail
       refine (RP.out _).mono ?_
       rintro y w6 ⟨rfl, hb6⟩
       obtain ⟨u1, u2, u3, u4, u5, u6, u7, u8⟩ := HQ.out
       have hb56 := hb5.trans (hb6.mono hb5.size)
       have hbl6 := builder_below u6 hb56
       have hs6 := hb56.size
       obtain ⟨RS, hRS⟩ : ∃ RS : ByteArray, (⟨(repeatL (⟨#[48]⟩ : ByteArray).data.toList z).toArray⟩ : ByteArray) = RS := ⟨_, rfl⟩
       have hRSl : RS.data.toList = repeatL [48] z := by rw [← hRS]
       have hRSs : RS.size = z := by rw [← hRS, str_size, repeatL_length]; simp
       rw [hRS]
       have W1 := Lib.hid (wstr Bb Bb _ RS w6 hbl6 (by rw [u5, hRSs]; omega) (by omega))
       have HQ2 := Lib.hid (And.intro hRSl (And.intro hRSs (And.intro u7 (And.intro hb56 hs6))))
       clear u1 u2 u3 u4 u5 u6 u7 u8 hb56 hbl6 hs6 hRS hRSl hRSs hb5 hb6
       go_wp2_with fail
       refine (W1.out).mono ?_
       rintro y w7 ⟨rfl, hbl7, hb7⟩
       obtain ⟨u1, u2, u3, u4, u5, u6, u7, u8⟩ := HQ.out
       obtain ⟨v1, v2, v3, v4, v5⟩ := HQ2.out
       have hs7 := hb7.size
       have W2 := Lib.hid (wstr Bb Bb _ TS w7 hbl7 (by rw [List.length_append, u5, u1, v1, repeatL_length]; simp; omega) (by omega))
       have HB7 := Lib.hid (And.intro hb7 hs7)
       clear u1 u2 u3 u4 u5 u6 u7 u8 v1 v2 v3 v4 v5 hbl7 hb7 hs7
       go_wp2_with fail
       refine (W2.out).mono ?_
       rintro y w8 ⟨rfl, hbl8, hb8⟩
       have HB8 := Lib.hid (And.intro hbl8 hb8)
       clear hbl8 hb8
       have c11 : IntKind.i64.wrap ((j : Int) - 1) = (j : Int) - 1 := IntWalk.i64_in _ (by omega)
       go_wp2_with fail
       go_roundg j
       case measure => omega
       case rel =>
        obtain ⟨u1, u2, u3, u4, u5, u6, u7, u8⟩ := HQ.out
        obtain ⟨v1, v2, v3, v4, v5⟩ := HQ2.out
        refine ⟨j, (j : Int) - 1, rfl, by omega, rfl, by omega, ?_, ?_, ?_⟩
        · have h := HB8.out.1
          rw [v1, u2] at h
          rw [u4]
          exact h
        · have h1 := HB8.out.2.size
          have h2 := HB7.out.2
          omega
        · exact ((u7.trans (v4.mono (by omega))).trans HB7.out.1).trans HB8.out.2
  · obtain ⟨q, hq⟩ : ∃ q, min k 9 = q := ⟨_, rfl⟩
    have c1 : decide (0 < k) = true := decide_eq_true (by omega)
    have c2 : decide ((0 : Int) < (k : Int)) = true := decide_eq_true (by omega)
    have c3 : min (k : Int) 9 = (q : Int) := by omega
    have c4 : IntKind.i64.wrap ((k : Int) - (q : Int)) = ((k - q : Nat) : Int) := by rw [show (k : Int) - (q : Int) = ((k - q : Nat) : Int) by omega]; exact IntWalk.i64_in _ (by omega)
    have hq9 : q ≤ 9 ∧ q ≤ k ∧ 0 < q := by omega
    obtain ⟨l, hl⟩ : ∃ l, d.length = l := ⟨_, rfl⟩
    rw [hl] at hown hd0 hdl
    obtain ⟨g, cp, hv, hXg, hglt⟩ := hown.form hd0
    subst hv
    obtain ⟨b, hbq⟩ : ∃ b, base ^ q = b := ⟨_, rfl⟩
    have hb9 : b ≤ 1000000000 := by rw [← hbq]; exact Fl.base_pow hb hq9.1
    have hpr2 : Fl.prodL base (k - q) (Fl.roundL b d) = D := by rw [← hpr, Fl.prod_step (by omega) d, hq, hbq]
    obtain ⟨rl1, rl2, rl3⟩ := Fl.round_limbs hb9 hlm
    obtain ⟨k', hk'⟩ : ∃ k', k - q = k' := ⟨_, rfl⟩
    rw [hk'] at c4 hpr2
    have hkk : k' < k := by omega
    have HP := Lib.hid (And.intro hpr2 (And.intro hlm (And.intro hl (And.intro rl1 (And.intro rl2 rl3)))))
    have HBQ := Lib.hid (And.intro hbq hb9)
    clear hpr hpr2 hlm hl hq rl1 rl2 rl3 hbq hb9 hk' hk0
    go_wp2_with fail
    go_loopg [8, 27] q (fun f t8 t27 wx => ∃ j : Nat, t8 = .int .u64 ((base ^ j : Nat) : Int) ∧ t27 = .int .i64 (j : Int) ∧ j + f = q ∧ wx = wr)
    case atStart => exact ⟨0, by simp, rfl, by omega, rfl⟩
    case round =>
     obtain ⟨j, rfl, rfl, hjf, hww⟩ := hrel
     subst hww
     by_cases hjq : j < q
     · obtain ⟨A, hA⟩ : ∃ A, base ^ j = A := ⟨_, rfl⟩
       obtain ⟨B, hB⟩ : ∃ B, base ^ (j + 1) = B := ⟨_, rfl⟩
       have hAB : A * base = B := by rw [← hA, ← hB, Nat.pow_succ]
       have hB9 : B ≤ 1000000000 := by rw [← hB]; exact Fl.base_pow hb (by omega)
       have n1 : decide (j < q) = true := decide_eq_true hjq
       have n2 : IntKind.u64.wrap ((A : Int) * (base : Int)) = (B : Int) := by
        have h : (A : Int) * (base : Int) = (B : Int) := by rw [← hAB]; simp
        rw [h, IntKind.wrap_u64]; omega
       have HBB := Lib.hid hB
       rw [hA]
       clear hB hA hAB hB9
       go_wp2_with fail
       go_roundg (q - (j + 1))
       case measure => omega
       case rel => exact ⟨j + 1, by rw [HBB.out], rfl, by omega, rfl⟩
     · have hje : j = q := by omega
       subst hje
       rw [HBQ.out.1]
       clear hjq hjf
       go_wp2_with fail
       go_loopg [9, 10, 39] l (fun f t9 t10 t39 wx => ∃ i : Nat, t9 = .int .u64 ((Fl.passC b 0 (d.take i) : Nat) : Int) ∧ t39 = .int .i64 (i : Int) ∧ i + f = l ∧ wx.ownsRow X 22 1 (.slice (some ⟨g, 0, none⟩) l cp) l (u64s (midL b d i)) ∧ Below X w wx)
       case atStart => exact ⟨0, by simp [Fl.passC], rfl, by omega, by simpa [midL, Fl.passL] using hown, hbx⟩
       case round =>
        obtain ⟨i, rfl, rfl, hif, hmid, hbm⟩ := hrel
        have hlm := HP.out.2.1
        have hl := HP.out.2.2.1
        have hb9 := HBQ.out.2
        by_cases hil : i < l
        · obtain ⟨x, hx⟩ : ∃ x, d[i]? = some x := ⟨d[i]'(by omega), List.getElem?_eq_getElem (by omega)⟩
          have hx9 : x < 1000000000 := hlm x (List.mem_of_getElem? hx)
          obtain ⟨C, hC⟩ : ∃ C, Fl.passC b 0 (d.take i) = C := ⟨_, rfl⟩
          have hC9 : C < 1000000000 := by rw [← hC]; exact (Fl.pass_limbs hb9 0 _ (by decide) (limbs_take hlm i)).2
          obtain ⟨Y, hY⟩ : ∃ Y, x * b = Y := ⟨_, rfl⟩
          have hsum := (Fl.carry_lt hb9 hC9 hx9).2
          rw [hY] at hsum
          obtain ⟨S, hS⟩ : ∃ S, C + Y = S := ⟨_, rfl⟩
          rw [hS] at hsum
          obtain ⟨s0, hs0⟩ : ∃ s0, S % 1000000000 = s0 := ⟨_, rfl⟩
          obtain ⟨s1, hs1⟩ : ∃ s1, S / 1000000000 = s1 := ⟨_, rfl⟩
          have hcell := hmid.cellAt i (by omega)
          rw [u64s_get (mid_get hx)] at hcell
          have hfr := hmid.frozenAt i
          have hst := hmid.stored i (.int .u64 (s0 : Int))
          have hset := mid_set (b := b) hx
          rw [hC, hY, hS, hs0] at hset
          rw [hset] at hst
          have hnext : Fl.passC b 0 (d.take (i + 1)) = s1 := by rw [(pass_take hx).2, hC, hY, hS, hs1]
          have n1 : decide (i < l) = true := decide_eq_true hil
          have n2 : IntKind.u64.wrap ((x : Int) * (b : Int)) = (Y : Int) := by
           have h : (x : Int) * (b : Int) = (Y : Int) := by rw [← hY]; simp
           rw [h, IntKind.wrap_u64]; omega
          have n3 : IntKind.u64.wrap ((C : Int) + (Y : Int)) = (S : Int) := by rw [IntKind.wrap_u64]; omega
          have g1 : Int.tmod (S : Int) 1000000000 = (s0 : Int) := by rw [Int.tmod_eq_emod_of_nonneg (by omega)]; omega
          have g2 : (S : Int) % 1000000000 = (s0 : Int) := by omega
          have g3 : Int.tdiv (S : Int) 1000000000 = (s1 : Int) := by rw [Int.tdiv_eq_ediv_of_nonneg (by omega)]; omega
          have g4 : (S : Int) / 1000000000 = (s1 : Int) := by omega
          have g7 : IntKind.u64.wrap (s1 : Int) = (s1 : Int) := by rw [IntKind.wrap_u64]; omega
          have HS := Lib.hid (And.intro hst hnext)
          have HM := Lib.hid hmid
          rw [hC]
          clear hlm hl hb9 hx hx9 hC hC9 hY hS hs0 hs1 hset hst hnext hmid
          go_wp2_with fail
          go_roundg (l - (i + 1))
          case measure => omega
          case rel =>
           refine ⟨i + 1, by rw [HS.out.2], rfl, by omega, HS.out.1.1, ?_⟩
           exact hbm.setCell (p := ⟨g, i, none⟩) hXg _
        · have hie : i = l := by omega
          subst hie
          obtain ⟨hpr2, _, _, rl1, rl2, rl3⟩ := HP.out
          have htk : d.take i = d := List.take_of_length_le (by omega)
          have hmidE : midL b d i = Fl.passL b 0 d := by unfold midL; rw [htk, List.drop_eq_nil_of_le (by omega), List.append_nil]
          rw [hmidE] at hmid
          obtain ⟨C, hC⟩ : ∃ C, Fl.passC b 0 d = C := ⟨_, rfl⟩
          have hC9 : C < 1000000000 := by rw [← hC]; exact (Fl.pass_limbs hb9 0 d (by decide) hlm).2
          have hrd : Fl.roundL b d = Fl.passL b 0 d ++ (if 0 < C then [C] else []) := by rw [← hC]; rfl
          rw [htk, hC]
          by_cases hC0 : C = 0
          · have hrd2 : Fl.roundL b d = Fl.passL b 0 d := by rw [hrd, if_neg (by omega), List.append_nil]
            have hlen : (Fl.roundL b d).length = i := by rw [hrd2, Fl.pass_len]; exact hl
            subst hC0
            have HR := Lib.hid (And.intro hrd2 (And.intro hlen (And.intro rl1 (And.intro hpr2 hmid))))
            clear hrd hrd2 hlen rl1 rl2 rl3 hpr2 hmid hmidE htk hC hlm hl hb9 hil hC9
            go_wp2_with fail
            go_roundg k'
            case measure => omega
            case rel =>
             obtain ⟨e1, e2, e3, e4, e5⟩ := HR.out
             exact ⟨k', Fl.roundL b d, rfl, Nat.le_refl _, by omega, by rw [e2, e1]; exact e5, e3, e4, by omega, by omega, hbm⟩
          · have hrd2 : Fl.roundL b d = Fl.passL b 0 d ++ [C] := by rw [hrd, if_pos (by omega)]
            have hlen : (Fl.roundL b d).length = i + 1 := by rw [hrd2, List.length_append, Fl.pass_len, hl]; rfl
            have n1 : decide (0 < C) = true := decide_eq_true (by omega)
            have n2 : decide ((0 : Int) < (C : Int)) = true := decide_eq_true (by omega)
            have HR := Lib.hid (And.intro hrd2 (And.intro hlen (And.intro rl1 hpr2)))
            have hXs := hbm.size
            have hXw := HX.out
            have hXr : X ≤ wr.heap.size := by omega
            clear hXs hXw
            clear hrd hrd2 hlen rl1 rl2 rl3 hpr2 hmidE htk hC hlm hl hb9 hil hC0 hC9
            go_wp2_with (at_builtin; refine wpList_append_own _ rfl _ _ 184 rfl X 22 i0 (.int .u64 0) 1 8 Tryz.underlying184 hi hz0 hz1 hz2 rfl (by decide) _ _ _ rfl (hmid.alloc _) ⟨wr.heap.size, 0, none⟩ 1 1 [.int .u64 (C : Int)] rfl rfl ?c1 ?c2 ?c3 ?c4 ?c5 ?_)
            case c1 =>
             intro j u' hj
             match j, hj with
             | 0, hj => simp at hj; subst hj; simp [Addr.add]
            case c2 => intro u' hu'; simp at hu'; subst hu'; rfl
            case c3 => unfold maxLen; omega
            case c4 => omega
            case c5 => simp; omega
            intro v' w3 hown3 hgr3 _
            have hb3 : Below X wr w3 := ((Below.refl _ _).alloc hXr _).grown hgr3 (by simp; omega) (fun k hk => (hmid.lt k hk).1)
            have HOW3 := Lib.hid hown3
            clear hgr3 hown3 hmid
            go_wp2_with fail
            go_roundg k'
            case measure => omega
            case rel =>
             obtain ⟨e1, e2, e3, e4⟩ := HR.out
             refine ⟨k', Fl.roundL b d, rfl, Nat.le_refl _, by omega, ?_, e3, e4, by omega, by omega, hbm.trans hb3⟩
             rw [e2, e1]
             have e : u64s (Fl.passL b 0 d ++ [C]) = u64s (Fl.passL b 0 d) ++ [.int .u64 (C : Int)] := by simp [u64s]
             rw [e]
             exact HOW3.out
theorem finite_num (b : Nat) (hb : b < 18446744073709551616) (hr : b % 9223372036854775808 < 9218868437227405312) (w : World) (hL : Laid w) :
 Calls Tryz.prog 46 #[.string ⟨(Fl.txt b).toArray⟩] w fun x w' => x = .returned (.tuple #[.float .f64 b, .int .i64 0]) ∧ Below w.heap.size w w' := by
 have PA := fun W hW => parse_txt b hb W hW
 rw [canon_self (by omega)] at PA
 have PA := Lib.hid PA
 have II := fun W => isinf_any b W hb
 have i0 : (b % 9223372036854775808 == 9218868437227405312) = false := by rw [beq_eq_false_iff_ne]; omega
 rw [i0] at II
 have II := Lib.hid II
 have o1 := ord_self hb
 rw [decide_eq_false (by omega)] at o1
 have HL := Lib.hid hL
 clear hb hr hL i0
 go_enter Tryz.func46, Tryz.ntmps46
 go_wp2_with fail
 refine (PA.out _ HL.out).mono ?_
 rintro x w1 ⟨rfl, hb1⟩
 go_wp2_with fail
 refine (II.out _).mono ?_
 rintro x w2 ⟨rfl, rfl⟩
 go_wp2_with fail
 go_ret2
 exact ⟨rfl, hb1⟩
theorem scaled_neg (m k : Nat) (e : Int) (w : World) (hL : Laid w) (hm : m < 18446744073709551616) (hm0 : m ≠ 0) (hk : k ≤ 2000) (he : e < 0) (hek : -e = (k : Int)) :
 Calls Tryz.prog 73 #[.int .u64 (m : Int), .int .i64 e] w fun x w' => x = .returned (.string ⟨(decDigits (m * 5 ^ k)).toArray⟩) ∧ Below w.heap.size w w' := by
 have h5 : 0 < 5 ^ k := Nat.pow_pos (n := k) (show 0 < 5 by decide)
 have hne : m * 5 ^ k ≠ 0 := Nat.mul_ne_zero hm0 (by omega)
 have PR : ∀ W, Laid W → Calls Tryz.prog 117 #[.int .u64 (m : Int), .int .u64 5, .int .i64 (k : Int)] W fun x w' => x = .returned (.string ⟨(decDigits (m * 5 ^ k)).toArray⟩) ∧ Below W.heap.size W w' := fun W hW => product_any m 5 k W hW hm (by decide) hk hne
 obtain ⟨Z, hZ⟩ : ∃ Z : ByteArray, ⟨(decDigits (m * 5 ^ k)).toArray⟩ = Z := ⟨_, rfl⟩
 rw [hZ] at PR ⊢
 have PR := Lib.hid PR
 have c1 : decide (0 ≤ e) = false := decide_eq_false (by omega)
 have c2 : IntKind.i64.wrap (-e) = (k : Int) := by rw [hek]; exact IntWalk.i64_in _ (by omega)
 have HL := Lib.hid hL
 clear hL hm hm0 hk he hek h5 hne hZ
 go_enter Tryz.func73, Tryz.ntmps73
 go_wp2_with fail
 refine (PR.out _ HL.out).mono ?_
 rintro x w1 ⟨rfl, hb1⟩
 go_wp2_with fail
 go_ret
 exact ⟨rfl, hb1⟩
theorem next_four (w : World) : Calls Tryz.prog 77 #[.string ⟨#[52]⟩] w fun x w' => x = .returned (.string ⟨#[53]⟩) ∧ Below w.heap.size w w' := by
 have TR : ∀ W, Calls Tryz.prog 124 #[.string ⟨#[52]⟩, .string ⟨#[57]⟩] W fun z w' => z = .returned (.string ⟨#[52]⟩) ∧ w' = W := fun W => by
  have h := Tryz.strings_TrimRight_one ⟨#[52]⟩ 57 (by decide) W (by decide)
  exact h
 have RP : ∀ W, Calls Tryz.prog 76 #[.string ⟨#[48]⟩, .int .i64 0] W fun z w' => z = .returned (.string ⟨#[]⟩) ∧ Below W.heap.size W w' := fun W => by
  have h := Tryz.strings_Repeat ⟨#[48]⟩ 0 W (by decide) (by decide)
  exact h
 have cv : ∀ W : World, (convert 31 9 (.slice (some ⟨W.heap.size, 0, none⟩) 1 1)).run Tryz.prog ((W.alloc (.cells #[.int .u8 53] 5)).drew) = .ok (.string ⟨#[53]⟩) ((W.alloc (.cells #[.int .u8 53] 5)).drew) := fun W => by
  have hr : Reads ((W.alloc (.cells #[.int .u8 53] 5)).drew) (W.heap.size + 1) (some ⟨W.heap.size, 0, none⟩) 1 (u8s [53]) := by
   have h := Reads.of_block (cs := u8s [53]) (show (W.alloc (.cells #[.int .u8 53] 5)).heap[W.heap.size]? = some (.cells (u8s [53]).toArray 5 (0, 0)) from heap_alloc_new W _)
   have e : (W.alloc (.cells #[.int .u8 53] 5)).heap.size = W.heap.size + 1 := by simp
   rw [e] at h
   exact h
  exact conv_bytes hr (fun h => by omega)
 obtain ⟨S, hS⟩ : ∃ S : ByteArray, (⟨#[52]⟩ : ByteArray) = S := ⟨_, rfl⟩
 have s1 : S.size = 1 := by rw [← hS]; rfl
 have s2 : (S[0]'(by omega)).toNat = 52 := by subst hS; rfl
 have s3 : S.extract 0 0 = ⟨#[]⟩ := by subst hS; decide
 have s4 : S.toList.isEmpty = false := by subst hS; kernel_rfl
 have w0 : IntKind.i64.wrap 0 = 0 := by decide
 have a1 := fun W => run_string_add_sum (P := Tryz.prog) (w := W) ⟨#[]⟩ ⟨#[53]⟩ (by decide)
 have a2 := fun W => run_string_add_sum (P := Tryz.prog) (w := W) ⟨#[53]⟩ ⟨#[]⟩ (by decide)
 rw [hS] at TR ⊢
 have TR := Lib.hid TR
 have RP := Lib.hid RP
 clear hS
 go_enter Tryz.func77, Tryz.ntmps77
 go_wp2_with fail
 refine (TR.out _).mono ?_
 rintro x w1 ⟨rfl, rfl⟩
 go_wp2_with fail
 refine (RP.out _).mono ?_
 rintro x w2 ⟨rfl, hb2⟩
 go_wp2_with fail
 go_region
 go_wp2_with fail
 go_ret
 exact ⟨rfl, hb2.trans ((((Below.refl _ _).alloc (Nat.le_refl _) _).drew).mono hb2.size)⟩
def Fl.insideP (x y : Int) (even : Bool) : Bool := (decide (0 < x) && decide (y < 0)) || (even && (x == 0 || y == 0))
theorem inside_any (c lo hi : ByteArray) (even : Bool) (pl ph pe : Addr) (w : World) (hl : w.cell? pl = some (.string lo)) (hh : w.cell? ph = some (.string hi)) (he : w.cell? pe = some (.bool even)) (h1 : c.size ≤ 1073741824) (h2 : lo.size ≤ 1073741824) (h3 : hi.size ≤ 1073741824) :
 Calls Tryz.prog 74 #[.string c, .pointer (some pl), .pointer (some ph), .pointer (some pe)] w fun x w' => x = .returned (.bool (Fl.insideP (ordB c lo) (ordB c hi) even)) ∧ Below w.heap.size w w' := by
 have OL := Lib.hid (fun W => order_any c lo W h1 h2)
 have OH := Lib.hid (fun W => order_any c hi W h1 h3)
 obtain ⟨x, hx⟩ : ∃ x, ordB c lo = x := ⟨_, rfl⟩
 obtain ⟨y, hy⟩ : ∃ y, ordB c hi = y := ⟨_, rfl⟩
 rw [hx] at OL ⊢
 rw [hy] at OH ⊢
 clear hx hy h1 h2 h3
 go_enter Tryz.func74, Tryz.ntmps74
 go_wp2_with fail
 go_region_held3 (fun W => W.cell? pl = some (.string lo) ∧ W.cell? ph = some (.string hi) ∧ W.cell? pe = some (.bool even) ∧ Below w.heap.size w W)
  ((first | exact ⟨hl, hh, he, Below.refl _ _⟩ | exact ⟨hl, hh, he, b_drew (Below.refl _ _)⟩ | assumption | (refine ⟨by assumption, by assumption, by assumption, ?_⟩; exact b_drew (by assumption))))
  (first | (go_at_call 75; with_reducible refine (OL.out _).mono ?_; rintro z w6 ⟨rfl, rfl⟩) | (go_at_call 75; with_reducible refine (OH.out _).mono ?_; rintro z w6 ⟨rfl, rfl⟩))
 rcases Int.lt_trichotomy x 0 with hx | hx | hx
 · have a1 : decide (0 < x) = false := decide_eq_false (by omega)
   have a2 : (x == 0) = false := by rw [beq_eq_false_iff_ne]; omega
   clear hx
   rcases Int.lt_trichotomy y 0 with hy | hy | hy
   · have b1 : decide (y < 0) = true := decide_eq_true (by omega)
     have b2 : (y == 0) = false := by rw [beq_eq_false_iff_ne]; omega
     clear hy
     cases even
     · go_wp2_with fail
       go_ret
       refine ⟨?_, b_drew (Below.refl _ _)⟩
       simp [Fl.insideP, *]
     · go_wp2_with fail
       go_ret
       refine ⟨?_, b_drew (Below.refl _ _)⟩
       simp [Fl.insideP, *]
   · subst hy
     cases even
     · go_wp2_with fail
       go_ret
       refine ⟨?_, b_drew (Below.refl _ _)⟩
       simp [Fl.insideP, *]
     · go_wp2_with fail
       go_ret
       refine ⟨?_, b_drew (Below.refl _ _)⟩
       simp [Fl.insideP, *]
   · have b1 : decide (y < 0) = false := decide_eq_false (by omega)
     have b2 : (y == 0) = false := by rw [beq_eq_false_iff_ne]; omega
     clear hy
     cases even
     · go_wp2_with fail
       go_ret
       refine ⟨?_, b_drew (Below.refl _ _)⟩
       simp [Fl.insideP, *]
     · go_wp2_with fail
       go_ret
       refine ⟨?_, b_drew (Below.refl _ _)⟩
       simp [Fl.insideP, *]
 · subst hx
   rcases Int.lt_trichotomy y 0 with hy | hy | hy
   · have b1 : decide (y < 0) = true := decide_eq_true (by omega)
     have b2 : (y == 0) = false := by rw [beq_eq_false_iff_ne]; omega
     clear hy
     cases even
     · go_wp2_with fail
       go_ret
       refine ⟨?_, b_drew (Below.refl _ _)⟩
       simp [Fl.insideP, *]
     · go_wp2_with fail
       go_ret
       refine ⟨?_, b_drew (Below.refl _ _)⟩
       simp [Fl.insideP, *]
   · subst hy
     cases even
     · go_wp2_with fail
       go_ret
       refine ⟨?_, b_drew (Below.refl _ _)⟩
       simp [Fl.insideP, *]
     · go_wp2_with fail
       go_ret
       refine ⟨?_, b_drew (Below.refl _ _)⟩
       simp [Fl.insideP, *]
   · have b1 : decide (y < 0) = false := decide_eq_false (by omega)
     have b2 : (y == 0) = false := by rw [beq_eq_false_iff_ne]; omega
     clear hy
     cases even
     · go_wp2_with fail
       go_ret
       refine ⟨?_, b_drew (Below.refl _ _)⟩
       simp [Fl.insideP, *]
     · go_wp2_with fail
       go_ret
       refine ⟨?_, b_drew (Below.refl _ _)⟩
       simp [Fl.insideP, *]
 · have a1 : decide (0 < x) = true := decide_eq_true (by omega)
   have a2 : (x == 0) = false := by rw [beq_eq_false_iff_ne]; omega
   clear hx
   rcases Int.lt_trichotomy y 0 with hy | hy | hy
   · have b1 : decide (y < 0) = true := decide_eq_true (by omega)
     have b2 : (y == 0) = false := by rw [beq_eq_false_iff_ne]; omega
     clear hy
     cases even
     · go_wp2_with fail
       go_ret
       refine ⟨?_, b_drew (Below.refl _ _)⟩
       simp [Fl.insideP, *]
     · go_wp2_with fail
       go_ret
       refine ⟨?_, b_drew (Below.refl _ _)⟩
       simp [Fl.insideP, *]
   · subst hy
     cases even
     · go_wp2_with fail
       go_ret
       refine ⟨?_, b_drew (Below.refl _ _)⟩
       simp [Fl.insideP, *]
     · go_wp2_with fail
       go_ret
       refine ⟨?_, b_drew (Below.refl _ _)⟩
       simp [Fl.insideP, *]
   · have b1 : decide (y < 0) = false := decide_eq_false (by omega)
     have b2 : (y == 0) = false := by rw [beq_eq_false_iff_ne]; omega
     clear hy
     cases even
     · go_wp2_with fail
       go_ret
       refine ⟨?_, b_drew (Below.refl _ _)⟩
       simp [Fl.insideP, *]
     · go_wp2_with fail
       go_ret
       refine ⟨?_, b_drew (Below.refl _ _)⟩
       simp [Fl.insideP, *]
end Go.Proofs.YtjapgpmoojfhnaaGreatDoor
