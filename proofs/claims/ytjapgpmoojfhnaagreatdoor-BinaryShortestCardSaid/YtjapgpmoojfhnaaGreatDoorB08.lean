/- product: the digits of m * base^n. finite, scaled, next at one digit, and the test of the interval. Shortest at the example of the smallest positive float. -/
import Derived.Test.YtjapgpmoojfhnaaGreatDoorB06
import Derived.Test.YtjapgpmoojfhnaaGreatDoorB07
namespace Go.Proofs.YtjapgpmoojfhnaaGreatDoor
open Go.RowKit Go.Lib

theorem wstr (B b : Nat) (l : List UInt8) (s : ByteArray) (w : World) (h : Lib.IsBuilder 159 5 B b (Lib.byteCells l) w) (hlen : l.length + s.size ≤ 140737488355328) (hBw : B ≤ w.heap.size) :
    Calls Tryz.prog 121 #[.pointer (some ⟨b, 0, none⟩), .string s] w fun e w' => e = .returned (.tuple #[.int .i64 s.size, .nilIface]) ∧ Lib.IsBuilder 159 5 B b (Lib.byteCells (l ++ s.data.toList)) w' ∧ Below B w w' := by
  have h := Any.Builder_WriteString { Tryz.lays105 with } Tryz.Builder_Extra_105 B b (Lib.byteCells l) s w h (by rw [Lib.byteCells_length]; exact hlen) hBw
  refine h.mono ?_
  rintro e w' ⟨rfl, h1, h2⟩
  refine ⟨rfl, .inr ?_, h2⟩
  rw [Lib.strCells_eq] at h1
  unfold Lib.byteCells at h1 ⊢
  rw [List.map_append]
  exact h1
def u64s (l : List Nat) : List Value := l.map fun (x : Nat) => Value.int .u64 (x : Int)
theorem u64s_get {l : List Nat} {k x : Nat} (h : l[k]? = some x) : (u64s l)[k]? = some (.int .u64 (x : Int)) := by simp [u64s, h]
theorem info22 : (Tryz.prog.info? 22).map (fun i => (i.zero, i.size, i.bytes)) = some (some (.int .u64 0), 1, 8) := by kernel_rfl
theorem pass_take {b c : Nat} {d : List Nat} {i x : Nat} (h : d[i]? = some x) :
    Fl.passL b c (d.take (i + 1)) = Fl.passL b c (d.take i) ++ [(Fl.passC b c (d.take i) + x * b) % 1000000000] ∧ Fl.passC b c (d.take (i + 1)) = (Fl.passC b c (d.take i) + x * b) / 1000000000 := by
  induction d generalizing c i with
  | nil => simp at h
  | cons y d ih =>
    cases i with
    | zero =>
      simp at h
      subst h
      simp [Fl.passL, Fl.passC]
    | succ i =>
      simp at h
      have := ih (c := (c + y * b) / 1000000000) h
      simp only [List.take_succ_cons, Fl.passL, Fl.passC, List.cons_append]
      exact ⟨by rw [this.1], this.2⟩
theorem limbs_take {d : List Nat} (h : Fl.Limbs d) (i : Nat) : Fl.Limbs (d.take i) := fun x hx => h x (List.mem_of_mem_take hx)
/-- The row in the midst of a pass. -/
def midL (b : Nat) (d : List Nat) (i : Nat) : List Nat := Fl.passL b 0 (d.take i) ++ d.drop i
theorem mid_get {b i x : Nat} {d : List Nat} (hx : d[i]? = some x) : (midL b d i)[i]? = some x := by
  have hi : i < d.length := by
    rcases Nat.lt_or_ge i d.length with h | h
    · exact h
    · rw [List.getElem?_eq_none h] at hx; cases hx
  unfold midL
  rw [List.getElem?_append_right (by rw [Fl.pass_len, List.length_take]; omega), Fl.pass_len, List.length_take, Nat.min_eq_left (by omega), Nat.sub_self, List.getElem?_drop, Nat.add_zero]
  exact hx
theorem mid_set {b i x : Nat} {d : List Nat} (hx : d[i]? = some x) : (u64s (midL b d i)).set i (.int .u64 (((Fl.passC b 0 (d.take i) + x * b) % 1000000000 : Nat) : Int)) = u64s (midL b d (i + 1)) := by
  have hi : i < d.length := by
    rcases Nat.lt_or_ge i d.length with h | h
    · exact h
    · rw [List.getElem?_eq_none h] at hx; cases hx
  have e : d.drop i = x :: d.drop (i + 1) := by
    rw [List.drop_eq_getElem_cons hi]
    congr 1
    rw [List.getElem?_eq_getElem hi] at hx
    exact Option.some.inj hx
  unfold midL
  rw [(pass_take hx).1, e]
  unfold u64s
  rw [← List.map_set]
  congr 1
  rw [List.set_append_right _ _ (by rw [Fl.pass_len, List.length_take]; omega), Fl.pass_len, List.length_take, Nat.min_eq_left (by omega), Nat.sub_self, List.set_cons_zero, List.append_assoc]
  rfl
theorem builder_below {T e : TypeId} {B b : Nat} {bs : List Value} {w w' : World} (h : Lib.IsBuilder T e B b bs w) (hb : Below w.heap.size w w') : Lib.IsBuilder T e B b bs w' := by
  have go : ∀ p, Lib.BuilderAt T e B b p bs w → Lib.BuilderAt T e B b p bs w' := by
    rintro p ⟨h1, v, h2, h3, h4⟩
    exact ⟨h1, v, (hb.block b (lt_of_block h2)).trans h2, own_below h3 hb, h4⟩
  rcases h with h | h
  · exact .inl (go _ h)
  · exact .inr (go _ h)
theorem limbB_step {d : List Nat} {i x : Nat} (h : d[i]? = some x) : Fl.limbB (d.drop i) = (Fl.limbB (d.drop (i + 1)) ++ repeatL [48] (9 - (decDigits x).length)) ++ decDigits x := by
  have hi : i < d.length := by
    rcases Nat.lt_or_ge i d.length with h' | h'
    · exact h'
    · rw [List.getElem?_eq_none h'] at h; cases h
  have e : d.drop i = x :: d.drop (i + 1) := by
    rw [List.drop_eq_getElem_cons hi]
    congr 1
    rw [List.getElem?_eq_getElem hi] at h
    exact Option.some.inj h
  rw [e]
  unfold Fl.limbB Fl.pad9
  simp
theorem limbB_len {d : List Nat} (h : Fl.Limbs d) : (Fl.limbB d).length = 9 * d.length := by
  rw [Fl.limbB_is h]
  simp [Fl.digB8, Fl.fix_len]
set_option maxHeartbeats 2000000 in
set_option maxRecDepth 100000 in
theorem product_any (m base n : Nat) (w : World) (hL : Laid w) (hm : m < 18446744073709551616) (hb : base ≤ 10) (hn : n ≤ 2000) (h0 : m * base ^ n ≠ 0) :
    Calls Tryz.prog 117 #[.int .u64 (m : Int), .int .u64 (base : Int), .int .i64 (n : Int)] w fun x w' => x = .returned (.string ⟨(decDigits (m * base ^ n)).toArray⟩) ∧ Below w.heap.size w w' := by
  obtain ⟨i0, hi, hz0, hz1, hz2⟩ := info_parts info22
  obtain ⟨D, hD⟩ : ∃ D, Fl.prodL base n (Fl.firstL m) = D := ⟨_, rfl⟩
  have hDv : Fl.limbV D = m * base ^ n := by rw [← hD, Fl.prod_val, Fl.first_val]
  have hDl : Fl.Limbs D ∧ D.length ≤ n + 3 := by
    rw [← hD]
    have h := Fl.prod_limbs hb n (Fl.firstL m) (Fl.first_limbs hm)
    refine ⟨h.1, ?_⟩
    have h2 := h.2
    rw [show (Fl.firstL m).length = 3 from rfl] at h2
    omega
  obtain ⟨V, hV⟩ : ∃ V, m * base ^ n = V := ⟨_, rfl⟩
  rw [hV] at hDv h0 ⊢
  obtain ⟨x0, hx0⟩ : ∃ x, m % 1000000000 = x := ⟨_, rfl⟩
  obtain ⟨x1, hx1⟩ : ∃ x, m / 1000000000 % 1000000000 = x := ⟨_, rfl⟩
  obtain ⟨x2, hx2⟩ : ∃ x, m / 1000000000 / 1000000000 = x := ⟨_, rfl⟩
  have e0 : (m : Int) % 1000000000 = (x0 : Int) := by omega
  have e1 : (m : Int) / 1000000000 % 1000000000 = (x1 : Int) := by omega
  have e2 : (m : Int) / 1000000000 / 1000000000 = (x2 : Int) := by omega
  have hfirst : Fl.firstL m = [x0, x1, x2] := by unfold Fl.firstL; rw [hx0, hx1, hx2]
  have hlim := Fl.first_limbs hm
  rw [hfirst] at hD hlim
  obtain ⟨X, hX⟩ : ∃ X, w.heap.size = X := ⟨_, rfl⟩
  have HX := Lib.hid hX
  have HL := Lib.hid hL
  have HD := Lib.hid (And.intro hDv (And.intro hDl.1 (And.intro hDl.2 h0)))
  have HD1 := Lib.hid hD
  have HLM := Lib.hid hlim
  clear hD hDv hDl hx0 hx1 hx2 hfirst h0 hlim hV hL
  go_enter Tryz.func117, Tryz.ntmps117
  go_upto_region 2 with fail
  have hown0 : (w.alloc (.cells #[.int .u64 (x0 : Int), .int .u64 (x1 : Int), .int .u64 (x2 : Int)] 22)).ownsRow X 22 1 (.slice (some ⟨X, 0, none⟩) 3 3) 3 (u64s [x0, x1, x2]) := by
    rw [← hX]
    exact ⟨rfl, .inr ⟨w.heap.size, 3, #[.int .u64 (x0 : Int), .int .u64 (x1 : Int), .int .u64 (x2 : Int)], rfl, Nat.le_refl _, heap_alloc_new w _, Nat.le_refl _, by unfold maxLen; decide, rfl, rfl⟩⟩
  have hb0 : Below X w (w.alloc (.cells #[.int .u64 (x0 : Int), .int .u64 (x1 : Int), .int .u64 (x2 : Int)] 22)) := by
    rw [← hX]; exact (Below.refl _ _).alloc (Nat.le_refl _) _
  obtain ⟨w1, hw1⟩ : ∃ w1, w.alloc (.cells #[.int .u64 (x0 : Int), .int .u64 (x1 : Int), .int .u64 (x2 : Int)] 22) = w1 := ⟨_, rfl⟩
  rw [hw1] at hown0 hb0
  rw [hw1]
  clear hw1 hX e0 e1 e2 hm
  go_loopg [2, 7, 8, 9, 10] n (fun f t2 t7 _ _ _ wx => ∃ (k : Nat) (d : List Nat), t2 = .int .i64 (k : Int) ∧ k ≤ f ∧ k ≤ 2000 ∧ wx.ownsRow X 22 1 t7 d.length (u64s d) ∧ Fl.Limbs d ∧ Fl.prodL base k d = D ∧ 0 < d.length ∧ d.length + k ≤ 2003 ∧ Below X w wx)
  case atStart => exact ⟨n, [x0, x1, x2], rfl, Nat.le_refl _, hn, hown0, HLM.out, HD1.out, by simp, by simp; omega, hb0⟩
  case round =>
    obtain ⟨k, d, rfl, hkf, hk2, hown, hlm, hpr, hd0, hdl, hbx⟩ := hrel
    by_cases hk0 : k = 0
    · subst hk0
      obtain ⟨wA, hwA⟩ : ∃ W, W = wr := ⟨_, rfl⟩
      subst hwA
      have hdD : d = D := by rw [← hpr, Fl.prodL]
      subst hdD
      obtain ⟨l, hl⟩ : ∃ l, d.length = l := ⟨_, rfl⟩
      rw [hl] at hown hd0 hdl
      obtain ⟨g, cp, hv, hXg, hglt⟩ := hown.form hd0
      subst hv
      have hXs := hbx.size
      have hXw := HX.out
      obtain ⟨Bb, hBb⟩ : ∃ Bb, wA.heap.size = Bb := ⟨_, rfl⟩
      have hfresh := Lib.fresh_isBuilder 159 5 wA
      have hb2 : Below Bb wA (wA.alloc (.cells #[.pointer none, .slice none 0 0] 159)) := by rw [← hBb]; exact (Below.refl _ _).alloc (Nat.le_refl _) _
      have hs2 : (wA.alloc (.cells #[.pointer none, .slice none 0 0] 159)).heap.size = Bb + 1 := by rw [← hBb]; simp
      rw [hBb] at hfresh
      have HOWN := Lib.hid hown
      have HLL := Lib.hid (And.intro hlm (And.intro hl hpr))
      have hXB : X ≤ Bb := by omega
      have hgB : g < Bb := by omega
      have HBX := Lib.hid hbx
      clear hlm hl hpr hown hXs hXw
      go_upto_region 20 with fail
      obtain ⟨w2, hw2⟩ : ∃ w2, wA.alloc (.cells #[.pointer none, .slice none 0 0] 159) = w2 := ⟨_, rfl⟩
      rw [hw2] at hfresh hb2 hs2
      rw [hw2]
      clear hw2
      have HBW := Lib.hid hBb
      have c9 : IntKind.i64.wrap ((l : Int) - 1) = (l : Int) - 1 := IntWalk.i64_in _ (by omega)
      clear hBb
      go_wp2_with fail
      go_loopg [12, 13] l (fun f t12 _ wx => ∃ (i : Nat) (I : Int), t12 = .int .i64 I ∧ I + 1 = (i : Int) ∧ i = f ∧ i ≤ l ∧ Lib.IsBuilder 159 5 Bb Bb (Lib.byteCells (Fl.limbB (d.drop i))) wx ∧ Bb < wx.heap.size ∧ Below Bb wA wx)
      case atStart =>
        refine ⟨l, (l : Int) - 1, rfl, by omega, rfl, Nat.le_refl _, ?_, by omega, hb2⟩
        rw [List.drop_eq_nil_of_le (by have := HLL.out.2.1; omega)]
        exact hfresh
      case round =>
        obtain ⟨i, I, rfl, hI, hif, hil, hbl, hsz, hbB⟩ := hrel
        have hL1 := HL.out.on (by rw [HX.out]; exact HBX.out)
        have hL2 := hL1.on (by rw [HBW.out]; exact hbB)
        have HL2 := Lib.hid hL2
        by_cases hi0 : i = 0
        · obtain rfl : I = -1 := by omega
          subst hi0
          rw [List.drop_zero] at hbl
          have ST := Lib.hid (Tryz.Builder_String_any Bb Bb (Fl.limbB d) wr hbl (by omega))
          have TR := Lib.hid (fun W => Tryz.strings_TrimLeft_one ⟨(Fl.limbB d).toArray⟩ 48 (by decide) W)
          have HE := Lib.hid (Fl.trim_limb HLL.out.1 (by rw [HD.out.1]; exact HD.out.2.2.2))
          have HBF := Lib.hid hbB
          clear hL1 hL2 hI hif hil hbl hsz hbB
          go_wp2_with fail
          refine (ST.out).mono ?_
          rintro x w5 ⟨rfl, hb5⟩
          go_wp2_with fail
          refine (TR.out _).mono ?_
          rintro x w6 ⟨rfl, rfl⟩
          go_wp2_with fail
          go_ret
          refine ⟨?_, ?_⟩
          · have e : (⟨(trimLeftB (⟨(Fl.limbB d).toArray⟩ : ByteArray).data.toList 48).toArray⟩ : ByteArray) = ⟨(decDigits V).toArray⟩ := by
              show (⟨(trimLeftB (Fl.limbB d) 48).toArray⟩ : ByteArray) = _
              rw [HE.out, HD.out.1]
            exact congrArg (fun z => Ending.returned (.string z)) e
          · rw [HX.out]
            exact HBX.out.trans ((HBF.out.trans hb5).mono hXB)
        · obtain ⟨j, hj⟩ : ∃ j, i = j + 1 := ⟨i - 1, by omega⟩
          subst hj
          obtain rfl : I = (j : Int) := by omega
          obtain ⟨hlm, hll, _⟩ := HLL.out
          obtain ⟨x, hx⟩ : ∃ x, d[j]? = some x := ⟨d[j]'(by omega), List.getElem?_eq_getElem (by omega)⟩
          have hx9 : x < 1000000000 := hlm x (List.mem_of_getElem? hx)
          have hcell := HOWN.out.cellAt j (by omega)
          rw [u64s_get hx] at hcell
          have hcell := (hbB.cell (p := ⟨g, j, none⟩) hgB).trans hcell
          have FU := fun W hW => formatUint_any x (by omega) W hW
          have htl := (Fl.pad_is hx9).2
          have hstep := limbB_step hx
          have hblen : (Fl.limbB (d.drop (j + 1))).length = 9 * (l - (j + 1)) := by
            rw [limbB_len (fun y hy => hlm y (List.mem_of_mem_drop hy)), List.length_drop, hll]
          obtain ⟨T, hT⟩ : ∃ T, decDigits x = T := ⟨_, rfl⟩
          rw [hT] at FU htl hstep
          obtain ⟨ts, hts⟩ : ∃ ts, T.length = ts := ⟨_, rfl⟩
          rw [hts] at htl hstep
          obtain ⟨z, hz⟩ : ∃ z, 9 - ts = z := ⟨_, rfl⟩
          rw [hz] at hstep
          obtain ⟨TS, hTS⟩ : ∃ TS : ByteArray, (⟨T.toArray⟩ : ByteArray) = TS := ⟨_, rfl⟩
          rw [hTS] at FU
          have hTSs : TS.size = ts := by rw [← hTS, str_size, hts]
          have hTSl : TS.data.toList = T := by rw [← hTS]
          have RP := Lib.hid (fun W => Tryz.strings_Repeat ⟨#[48]⟩ z W (by omega) (by show 1 * z ≤ _; omega))
          have q1 : (TS.size : Int) = (ts : Int) := by rw [hTSs]
          have q2 : IntKind.i64.wrap (9 - (ts : Int)) = (z : Int) := by rw [show 9 - (ts : Int) = (z : Int) by omega]; exact IntWalk.i64_in _ (by omega)
          have FU := Lib.hid FU
          have HQ := Lib.hid (And.intro hTSs (And.intro hTSl (And.intro hts (And.intro hstep (And.intro hblen (And.intro hbl (And.intro hbB hz)))))))
          have hzl : z ≤ 9 := by omega
          clear hL1 hL2 hI hi0 hlm hll hx hx9 hstep hblen hT hts hz hTS hTSs hTSl hbl hbB
          go_wp2_with fail
          refine (FU.out _ HL2.out).mono ?_
          rintro y w5 ⟨rfl, hb5⟩
          go_wp2_with fail
          refine (RP.out _).mono ?_
          rintro y w6 ⟨rfl, hb6⟩
          obtain ⟨u1, u2, u3, u4, u5, u6, u7, u8⟩ := HQ.out
          have hb56 := hb5.trans (hb6.mono hb5.size)
          have hbl6 := builder_below u6 hb56
          have hs6 := hb56.size
          obtain ⟨RS, hRS⟩ : ∃ RS : ByteArray, (⟨(repeatL (⟨#[48]⟩ : ByteArray).data.toList z).toArray⟩ : ByteArray) = RS := ⟨_, rfl⟩
          have hRSl : RS.data.toList = repeatL [48] z := by rw [← hRS]
          have hRSs : RS.size = z := by rw [← hRS, str_size, repeatL_length]; simp
          rw [hRS]
          have W1 := Lib.hid (wstr Bb Bb _ RS w6 hbl6 (by rw [u5, hRSs]; omega) (by omega))
          have HQ2 := Lib.hid (And.intro hRSl (And.intro hRSs (And.intro u7 (And.intro hb56 hs6))))
          clear u1 u2 u3 u4 u5 u6 u7 u8 hb56 hbl6 hs6 hRS hRSl hRSs hb5 hb6
          go_wp2_with fail
          refine (W1.out).mono ?_
          rintro y w7 ⟨rfl, hbl7, hb7⟩
          obtain ⟨u1, u2, u3, u4, u5, u6, u7, u8⟩ := HQ.out
          obtain ⟨v1, v2, v3, v4, v5⟩ := HQ2.out
          have hs7 := hb7.size
          have W2 := Lib.hid (wstr Bb Bb _ TS w7 hbl7 (by rw [List.length_append, u5, u1, v1, repeatL_length]; simp; omega) (by omega))
          have HB7 := Lib.hid (And.intro hb7 hs7)
          clear u1 u2 u3 u4 u5 u6 u7 u8 v1 v2 v3 v4 v5 hbl7 hb7 hs7
          go_wp2_with fail
          refine (W2.out).mono ?_
          rintro y w8 ⟨rfl, hbl8, hb8⟩
          have HB8 := Lib.hid (And.intro hbl8 hb8)
          clear hbl8 hb8
          have c11 : IntKind.i64.wrap ((j : Int) - 1) = (j : Int) - 1 := IntWalk.i64_in _ (by omega)
          go_wp2_with fail
          go_roundg j
          case measure => omega
          case rel =>
            obtain ⟨u1, u2, u3, u4, u5, u6, u7, u8⟩ := HQ.out
            obtain ⟨v1, v2, v3, v4, v5⟩ := HQ2.out
            refine ⟨j, (j : Int) - 1, rfl, by omega, rfl, by omega, ?_, ?_, ?_⟩
            · have h := HB8.out.1
              rw [v1, u2] at h
              rw [u4]
              exact h
            · have h1 := HB8.out.2.size
              have h2 := HB7.out.2
              omega
            · exact ((u7.trans (v4.mono (by omega))).trans HB7.out.1).trans HB8.out.2
    · obtain ⟨q, hq⟩ : ∃ q, min k 9 = q := ⟨_, rfl⟩
      have c1 : decide (0 < k) = true := decide_eq_true (by omega)
      have c2 : decide ((0 : Int) < (k : Int)) = true := decide_eq_true (by omega)
      have c3 : min (k : Int) 9 = (q : Int) := by omega
      have c4 : IntKind.i64.wrap ((k : Int) - (q : Int)) = ((k - q : Nat) : Int) := by rw [show (k : Int) - (q : Int) = ((k - q : Nat) : Int) by omega]; exact IntWalk.i64_in _ (by omega)
      have hq9 : q ≤ 9 ∧ q ≤ k ∧ 0 < q := by omega
      obtain ⟨l, hl⟩ : ∃ l, d.length = l := ⟨_, rfl⟩
      rw [hl] at hown hd0 hdl
      obtain ⟨g, cp, hv, hXg, hglt⟩ := hown.form hd0
      subst hv
      obtain ⟨b, hbq⟩ : ∃ b, base ^ q = b := ⟨_, rfl⟩
      have hb9 : b ≤ 1000000000 := by rw [← hbq]; exact Fl.base_pow hb hq9.1
      have hpr2 : Fl.prodL base (k - q) (Fl.roundL b d) = D := by rw [← hpr, Fl.prod_step (by omega) d, hq, hbq]
      obtain ⟨rl1, rl2, rl3⟩ := Fl.round_limbs hb9 hlm
      obtain ⟨k', hk'⟩ : ∃ k', k - q = k' := ⟨_, rfl⟩
      rw [hk'] at c4 hpr2
      have hkk : k' < k := by omega
      have HP := Lib.hid (And.intro hpr2 (And.intro hlm (And.intro hl (And.intro rl1 (And.intro rl2 rl3)))))
      have HBQ := Lib.hid (And.intro hbq hb9)
      clear hpr hpr2 hlm hl hq rl1 rl2 rl3 hbq hb9 hk' hk0
      go_wp2_with fail
      go_loopg [8, 27] q (fun f t8 t27 wx => ∃ j : Nat, t8 = .int .u64 ((base ^ j : Nat) : Int) ∧ t27 = .int .i64 (j : Int) ∧ j + f = q ∧ wx = wr)
      case atStart => exact ⟨0, by simp, rfl, by omega, rfl⟩
      case round =>
        obtain ⟨j, rfl, rfl, hjf, hww⟩ := hrel
        subst hww
        by_cases hjq : j < q
        · obtain ⟨A, hA⟩ : ∃ A, base ^ j = A := ⟨_, rfl⟩
          obtain ⟨B, hB⟩ : ∃ B, base ^ (j + 1) = B := ⟨_, rfl⟩
          have hAB : A * base = B := by rw [← hA, ← hB, Nat.pow_succ]
          have hB9 : B ≤ 1000000000 := by rw [← hB]; exact Fl.base_pow hb (by omega)
          have n1 : decide (j < q) = true := decide_eq_true hjq
          have n2 : IntKind.u64.wrap ((A : Int) * (base : Int)) = (B : Int) := by
            have h : (A : Int) * (base : Int) = (B : Int) := by rw [← hAB]; simp
            rw [h, IntKind.wrap_u64]; omega
          have HBB := Lib.hid hB
          rw [hA]
          clear hB hA hAB hB9
          go_wp2_with fail
          go_roundg (q - (j + 1))
          case measure => omega
          case rel => exact ⟨j + 1, by rw [HBB.out], rfl, by omega, rfl⟩
        · have hje : j = q := by omega
          subst hje
          rw [HBQ.out.1]
          clear hjq hjf
          go_wp2_with fail
          go_loopg [9, 10, 39] l (fun f t9 t10 t39 wx => ∃ i : Nat, t9 = .int .u64 ((Fl.passC b 0 (d.take i) : Nat) : Int) ∧ t39 = .int .i64 (i : Int) ∧ i + f = l ∧ wx.ownsRow X 22 1 (.slice (some ⟨g, 0, none⟩) l cp) l (u64s (midL b d i)) ∧ Below X w wx)
          case atStart => exact ⟨0, by simp [Fl.passC], rfl, by omega, by simpa [midL, Fl.passL] using hown, hbx⟩
          case round =>
            obtain ⟨i, rfl, rfl, hif, hmid, hbm⟩ := hrel
            have hlm := HP.out.2.1
            have hl := HP.out.2.2.1
            have hb9 := HBQ.out.2
            by_cases hil : i < l
            · obtain ⟨x, hx⟩ : ∃ x, d[i]? = some x := ⟨d[i]'(by omega), List.getElem?_eq_getElem (by omega)⟩
              have hx9 : x < 1000000000 := hlm x (List.mem_of_getElem? hx)
              obtain ⟨C, hC⟩ : ∃ C, Fl.passC b 0 (d.take i) = C := ⟨_, rfl⟩
              have hC9 : C < 1000000000 := by rw [← hC]; exact (Fl.pass_limbs hb9 0 _ (by decide) (limbs_take hlm i)).2
              obtain ⟨Y, hY⟩ : ∃ Y, x * b = Y := ⟨_, rfl⟩
              have hsum := (Fl.carry_lt hb9 hC9 hx9).2
              rw [hY] at hsum
              obtain ⟨S, hS⟩ : ∃ S, C + Y = S := ⟨_, rfl⟩
              rw [hS] at hsum
              obtain ⟨s0, hs0⟩ : ∃ s0, S % 1000000000 = s0 := ⟨_, rfl⟩
              obtain ⟨s1, hs1⟩ : ∃ s1, S / 1000000000 = s1 := ⟨_, rfl⟩
              have hcell := hmid.cellAt i (by omega)
              rw [u64s_get (mid_get hx)] at hcell
              have hfr := hmid.frozenAt i
              have hst := hmid.stored i (.int .u64 (s0 : Int))
              have hset := mid_set (b := b) hx
              rw [hC, hY, hS, hs0] at hset
              rw [hset] at hst
              have hnext : Fl.passC b 0 (d.take (i + 1)) = s1 := by rw [(pass_take hx).2, hC, hY, hS, hs1]
              have n1 : decide (i < l) = true := decide_eq_true hil
              have n2 : IntKind.u64.wrap ((x : Int) * (b : Int)) = (Y : Int) := by
                have h : (x : Int) * (b : Int) = (Y : Int) := by rw [← hY]; simp
                rw [h, IntKind.wrap_u64]; omega
              have n3 : IntKind.u64.wrap ((C : Int) + (Y : Int)) = (S : Int) := by rw [IntKind.wrap_u64]; omega
              have g1 : Int.tmod (S : Int) 1000000000 = (s0 : Int) := by rw [Int.tmod_eq_emod_of_nonneg (by omega)]; omega
              have g2 : (S : Int) % 1000000000 = (s0 : Int) := by omega
              have g3 : Int.tdiv (S : Int) 1000000000 = (s1 : Int) := by rw [Int.tdiv_eq_ediv_of_nonneg (by omega)]; omega
              have g4 : (S : Int) / 1000000000 = (s1 : Int) := by omega
              have g7 : IntKind.u64.wrap (s1 : Int) = (s1 : Int) := by rw [IntKind.wrap_u64]; omega
              have HS := Lib.hid (And.intro hst hnext)
              have HM := Lib.hid hmid
              rw [hC]
              clear hlm hl hb9 hx hx9 hC hC9 hY hS hs0 hs1 hset hst hnext hmid
              go_wp2_with fail
              go_roundg (l - (i + 1))
              case measure => omega
              case rel =>
                refine ⟨i + 1, by rw [HS.out.2], rfl, by omega, HS.out.1.1, ?_⟩
                exact hbm.setCell (p := ⟨g, i, none⟩) hXg _
            · have hie : i = l := by omega
              subst hie
              obtain ⟨hpr2, _, _, rl1, rl2, rl3⟩ := HP.out
              have htk : d.take i = d := List.take_of_length_le (by omega)
              have hmidE : midL b d i = Fl.passL b 0 d := by unfold midL; rw [htk, List.drop_eq_nil_of_le (by omega), List.append_nil]
              rw [hmidE] at hmid
              obtain ⟨C, hC⟩ : ∃ C, Fl.passC b 0 d = C := ⟨_, rfl⟩
              have hC9 : C < 1000000000 := by rw [← hC]; exact (Fl.pass_limbs hb9 0 d (by decide) hlm).2
              have hrd : Fl.roundL b d = Fl.passL b 0 d ++ (if 0 < C then [C] else []) := by rw [← hC]; rfl
              rw [htk, hC]
              by_cases hC0 : C = 0
              · have hrd2 : Fl.roundL b d = Fl.passL b 0 d := by rw [hrd, if_neg (by omega), List.append_nil]
                have hlen : (Fl.roundL b d).length = i := by rw [hrd2, Fl.pass_len]; exact hl
                subst hC0
                have HR := Lib.hid (And.intro hrd2 (And.intro hlen (And.intro rl1 (And.intro hpr2 hmid))))
                clear hrd hrd2 hlen rl1 rl2 rl3 hpr2 hmid hmidE htk hC hlm hl hb9 hil hC9
                go_wp2_with fail
                go_roundg k'
                case measure => omega
                case rel =>
                  obtain ⟨e1, e2, e3, e4, e5⟩ := HR.out
                  exact ⟨k', Fl.roundL b d, rfl, Nat.le_refl _, by omega, by rw [e2, e1]; exact e5, e3, e4, by omega, by omega, hbm⟩
              · have hrd2 : Fl.roundL b d = Fl.passL b 0 d ++ [C] := by rw [hrd, if_pos (by omega)]
                have hlen : (Fl.roundL b d).length = i + 1 := by rw [hrd2, List.length_append, Fl.pass_len, hl]; rfl
                have n1 : decide (0 < C) = true := decide_eq_true (by omega)
                have n2 : decide ((0 : Int) < (C : Int)) = true := decide_eq_true (by omega)
                have HR := Lib.hid (And.intro hrd2 (And.intro hlen (And.intro rl1 hpr2)))
                have hXs := hbm.size
                have hXw := HX.out
                have hXr : X ≤ wr.heap.size := by omega
                clear hXs hXw
                clear hrd hrd2 hlen rl1 rl2 rl3 hpr2 hmidE htk hC hlm hl hb9 hil hC0 hC9
                go_wp2_with (at_builtin; refine wpList_append_own _ rfl _ _ 184 rfl X 22 i0 (.int .u64 0) 1 8 Tryz.underlying184 hi hz0 hz1 hz2 rfl (by decide) _ _ _ rfl (hmid.alloc _) ⟨wr.heap.size, 0, none⟩ 1 1 [.int .u64 (C : Int)] rfl rfl ?c1 ?c2 ?c3 ?c4 ?c5 ?_)
                case c1 =>
                  intro j u' hj
                  match j, hj with
                  | 0, hj => simp at hj; subst hj; simp [Addr.add]
                case c2 => intro u' hu'; simp at hu'; subst hu'; rfl
                case c3 => unfold maxLen; omega
                case c4 => omega
                case c5 => simp; omega
                intro v' w3 hown3 hgr3 _
                have hb3 : Below X wr w3 := ((Below.refl _ _).alloc hXr _).grown hgr3 (by simp; omega) (fun k hk => (hmid.lt k hk).1)
                have HOW3 := Lib.hid hown3
                clear hgr3 hown3 hmid
                go_wp2_with fail
                go_roundg k'
                case measure => omega
                case rel =>
                  obtain ⟨e1, e2, e3, e4⟩ := HR.out
                  refine ⟨k', Fl.roundL b d, rfl, Nat.le_refl _, by omega, ?_, e3, e4, by omega, by omega, hbm.trans hb3⟩
                  rw [e2, e1]
                  have e : u64s (Fl.passL b 0 d ++ [C]) = u64s (Fl.passL b 0 d) ++ [.int .u64 (C : Int)] := by simp [u64s]
                  rw [e]
                  exact HOW3.out
end Go.Proofs.YtjapgpmoojfhnaaGreatDoor

namespace Go.Proofs.YtjapgpmoojfhnaaGreatDoor
open Go.RowKit Go.Lib

set_option maxHeartbeats 1000000 in
set_option maxRecDepth 100000 in
theorem finite_num (b : Nat) (hb : b < 18446744073709551616) (hr : b % 9223372036854775808 < 9218868437227405312) (w : World) (hL : Laid w) :
    Calls Tryz.prog 46 #[.string ⟨(Fl.txt b).toArray⟩] w fun x w' => x = .returned (.tuple #[.float .f64 b, .int .i64 0]) ∧ Below w.heap.size w w' := by
  have PA := fun W hW => parse_txt b hb W hW
  rw [canon_self (by omega)] at PA
  have PA := Lib.hid PA
  have II := fun W => isinf_any b W hb
  have i0 : (b % 9223372036854775808 == 9218868437227405312) = false := by rw [beq_eq_false_iff_ne]; omega
  rw [i0] at II
  have II := Lib.hid II
  have o1 := ord_self hb
  rw [decide_eq_false (by omega)] at o1
  have HL := Lib.hid hL
  clear hb hr hL i0
  go_enter Tryz.func46, Tryz.ntmps46
  go_wp2_with fail
  refine (PA.out _ HL.out).mono ?_
  rintro x w1 ⟨rfl, hb1⟩
  go_wp2_with fail
  refine (II.out _).mono ?_
  rintro x w2 ⟨rfl, rfl⟩
  go_wp2_with fail
  go_ret2
  exact ⟨rfl, hb1⟩
set_option maxHeartbeats 1000000 in
set_option maxRecDepth 100000 in
theorem finite_kind (b : Nat) (hb : b < 18446744073709551616) (hr : 9218868437227405312 ≤ b % 9223372036854775808) (w : World) (hL : Laid w) :
    Calls Tryz.prog 46 #[.string ⟨(Fl.txt b).toArray⟩] w fun x w' => x = .returned (.tuple #[.float .f64 0, .int .i64 10]) ∧ Below w.heap.size w w' := by
  have PA := Lib.hid (fun W hW => parse_txt b hb W hW)
  have HL := Lib.hid hL
  by_cases hn : 9218868437227405312 < b % 9223372036854775808
  · have o1 : (FloatKind.f64.format.order (Fl.canonW b) (Fl.canonW b) != some Ordering.eq) = true := by
      rw [canon_nan hn, ord_self (by decide)]; decide
    clear hb hr hL hn
    go_enter Tryz.func46, Tryz.ntmps46
    go_wp2_with fail
    refine (PA.out _ HL.out).mono ?_
    rintro x w1 ⟨rfl, hb1⟩
    go_wp2_with fail
    go_ret2
    exact ⟨rfl, hb1⟩
  · have hc : Fl.canonW b = b := canon_self (by omega)
    rw [hc] at PA
    have II := fun W => isinf_any b W hb
    have i0 : (b % 9223372036854775808 == 9218868437227405312) = true := by rw [beq_iff_eq]; omega
    rw [i0] at II
    have II := Lib.hid II
    have o1 := ord_self hb
    rw [decide_eq_false (by omega)] at o1
    clear hb hr hL hn i0 hc
    go_enter Tryz.func46, Tryz.ntmps46
    go_wp2_with fail
    refine (PA.out _ HL.out).mono ?_
    rintro x w1 ⟨rfl, hb1⟩
    go_wp2_with fail
    refine (II.out _).mono ?_
    rintro x w2 ⟨rfl, rfl⟩
    go_wp2_with fail
    go_ret2
    exact ⟨rfl, hb1⟩
set_option maxHeartbeats 1000000 in
set_option maxRecDepth 100000 in
theorem scaled_neg (m k : Nat) (e : Int) (w : World) (hL : Laid w) (hm : m < 18446744073709551616) (hm0 : m ≠ 0) (hk : k ≤ 2000) (he : e < 0) (hek : -e = (k : Int)) :
    Calls Tryz.prog 73 #[.int .u64 (m : Int), .int .i64 e] w fun x w' => x = .returned (.string ⟨(decDigits (m * 5 ^ k)).toArray⟩) ∧ Below w.heap.size w w' := by
  have h5 : 0 < 5 ^ k := Nat.pow_pos (n := k) (show 0 < 5 by decide)
  have hne : m * 5 ^ k ≠ 0 := Nat.mul_ne_zero hm0 (by omega)
  have PR : ∀ W, Laid W → Calls Tryz.prog 117 #[.int .u64 (m : Int), .int .u64 5, .int .i64 (k : Int)] W fun x w' => x = .returned (.string ⟨(decDigits (m * 5 ^ k)).toArray⟩) ∧ Below W.heap.size W w' := fun W hW => product_any m 5 k W hW hm (by decide) hk hne
  obtain ⟨Z, hZ⟩ : ∃ Z : ByteArray, ⟨(decDigits (m * 5 ^ k)).toArray⟩ = Z := ⟨_, rfl⟩
  rw [hZ] at PR ⊢
  have PR := Lib.hid PR
  have c1 : decide (0 ≤ e) = false := decide_eq_false (by omega)
  have c2 : IntKind.i64.wrap (-e) = (k : Int) := by rw [hek]; exact IntWalk.i64_in _ (by omega)
  have HL := Lib.hid hL
  clear hL hm hm0 hk he hek h5 hne hZ
  go_enter Tryz.func73, Tryz.ntmps73
  go_wp2_with fail
  refine (PR.out _ HL.out).mono ?_
  rintro x w1 ⟨rfl, hb1⟩
  go_wp2_with fail
  go_ret
  exact ⟨rfl, hb1⟩
set_option maxHeartbeats 1000000 in
set_option maxRecDepth 100000 in
theorem next_four (w : World) : Calls Tryz.prog 77 #[.string ⟨#[52]⟩] w fun x w' => x = .returned (.string ⟨#[53]⟩) ∧ Below w.heap.size w w' := by
  have TR : ∀ W, Calls Tryz.prog 124 #[.string ⟨#[52]⟩, .string ⟨#[57]⟩] W fun z w' => z = .returned (.string ⟨#[52]⟩) ∧ w' = W := fun W => by
    have h := Tryz.strings_TrimRight_one ⟨#[52]⟩ 57 (by decide) W (by decide)
    exact h
  have RP : ∀ W, Calls Tryz.prog 76 #[.string ⟨#[48]⟩, .int .i64 0] W fun z w' => z = .returned (.string ⟨#[]⟩) ∧ Below W.heap.size W w' := fun W => by
    have h := Tryz.strings_Repeat ⟨#[48]⟩ 0 W (by decide) (by decide)
    exact h
  have cv : ∀ W : World, (convert 31 9 (.slice (some ⟨W.heap.size, 0, none⟩) 1 1)).run Tryz.prog ((W.alloc (.cells #[.int .u8 53] 5)).drew) = .ok (.string ⟨#[53]⟩) ((W.alloc (.cells #[.int .u8 53] 5)).drew) := fun W => by
    have hr : Reads ((W.alloc (.cells #[.int .u8 53] 5)).drew) (W.heap.size + 1) (some ⟨W.heap.size, 0, none⟩) 1 (u8s [53]) := by
      have h := Reads.of_block (cs := u8s [53]) (show (W.alloc (.cells #[.int .u8 53] 5)).heap[W.heap.size]? = some (.cells (u8s [53]).toArray 5 (0, 0)) from heap_alloc_new W _)
      have e : (W.alloc (.cells #[.int .u8 53] 5)).heap.size = W.heap.size + 1 := by simp
      rw [e] at h
      exact h
    exact conv_bytes hr (fun h => by omega)
  obtain ⟨S, hS⟩ : ∃ S : ByteArray, (⟨#[52]⟩ : ByteArray) = S := ⟨_, rfl⟩
  have s1 : S.size = 1 := by rw [← hS]; rfl
  have s2 : (S[0]'(by omega)).toNat = 52 := by subst hS; rfl
  have s3 : S.extract 0 0 = ⟨#[]⟩ := by subst hS; decide
  have s4 : S.toList.isEmpty = false := by subst hS; kernel_rfl
  have w0 : IntKind.i64.wrap 0 = 0 := by decide
  have a1 := fun W => run_string_add_sum (P := Tryz.prog) (w := W) ⟨#[]⟩ ⟨#[53]⟩ (by decide)
  have a2 := fun W => run_string_add_sum (P := Tryz.prog) (w := W) ⟨#[53]⟩ ⟨#[]⟩ (by decide)
  rw [hS] at TR ⊢
  have TR := Lib.hid TR
  have RP := Lib.hid RP
  clear hS
  go_enter Tryz.func77, Tryz.ntmps77
  go_wp2_with fail
  refine (TR.out _).mono ?_
  rintro x w1 ⟨rfl, rfl⟩
  go_wp2_with fail
  refine (RP.out _).mono ?_
  rintro x w2 ⟨rfl, hb2⟩
  go_wp2_with fail
  go_region
  go_wp2_with fail
  go_ret
  exact ⟨rfl, hb2.trans ((((Below.refl _ _).alloc (Nat.le_refl _) _).drew).mono hb2.size)⟩
/-- The test of the interval. -/
def Fl.insideP (x y : Int) (even : Bool) : Bool := (decide (0 < x) && decide (y < 0)) || (even && (x == 0 || y == 0))
set_option maxHeartbeats 1000000 in
set_option maxRecDepth 100000 in
theorem inside_any (c lo hi : ByteArray) (even : Bool) (pl ph pe : Addr) (w : World) (hl : w.cell? pl = some (.string lo)) (hh : w.cell? ph = some (.string hi)) (he : w.cell? pe = some (.bool even)) (h1 : c.size ≤ 1073741824) (h2 : lo.size ≤ 1073741824) (h3 : hi.size ≤ 1073741824) :
    Calls Tryz.prog 74 #[.string c, .pointer (some pl), .pointer (some ph), .pointer (some pe)] w fun x w' => x = .returned (.bool (Fl.insideP (ordB c lo) (ordB c hi) even)) ∧ Below w.heap.size w w' := by
  have OL := Lib.hid (fun W => order_any c lo W h1 h2)
  have OH := Lib.hid (fun W => order_any c hi W h1 h3)
  obtain ⟨x, hx⟩ : ∃ x, ordB c lo = x := ⟨_, rfl⟩
  obtain ⟨y, hy⟩ : ∃ y, ordB c hi = y := ⟨_, rfl⟩
  rw [hx] at OL ⊢
  rw [hy] at OH ⊢
  clear hx hy h1 h2 h3
  go_enter Tryz.func74, Tryz.ntmps74
  go_wp2_with fail
  go_region_held3 (fun W => W.cell? pl = some (.string lo) ∧ W.cell? ph = some (.string hi) ∧ W.cell? pe = some (.bool even) ∧ Below w.heap.size w W)
    ((first | exact ⟨hl, hh, he, Below.refl _ _⟩ | exact ⟨hl, hh, he, b_drew (Below.refl _ _)⟩ | assumption | (refine ⟨by assumption, by assumption, by assumption, ?_⟩; exact b_drew (by assumption))))
    (first | (go_at_call 75; with_reducible refine (OL.out _).mono ?_; rintro z w6 ⟨rfl, rfl⟩) | (go_at_call 75; with_reducible refine (OH.out _).mono ?_; rintro z w6 ⟨rfl, rfl⟩))
  rcases Int.lt_trichotomy x 0 with hx | hx | hx
  · have a1 : decide (0 < x) = false := decide_eq_false (by omega)
    have a2 : (x == 0) = false := by rw [beq_eq_false_iff_ne]; omega
    clear hx
    rcases Int.lt_trichotomy y 0 with hy | hy | hy
    · have b1 : decide (y < 0) = true := decide_eq_true (by omega)
      have b2 : (y == 0) = false := by rw [beq_eq_false_iff_ne]; omega
      clear hy
      cases even
      · go_wp2_with fail
        go_ret
        refine ⟨?_, b_drew (Below.refl _ _)⟩
        simp [Fl.insideP, *]
      · go_wp2_with fail
        go_ret
        refine ⟨?_, b_drew (Below.refl _ _)⟩
        simp [Fl.insideP, *]
    · subst hy
      cases even
      · go_wp2_with fail
        go_ret
        refine ⟨?_, b_drew (Below.refl _ _)⟩
        simp [Fl.insideP, *]
      · go_wp2_with fail
        go_ret
        refine ⟨?_, b_drew (Below.refl _ _)⟩
        simp [Fl.insideP, *]
    · have b1 : decide (y < 0) = false := decide_eq_false (by omega)
      have b2 : (y == 0) = false := by rw [beq_eq_false_iff_ne]; omega
      clear hy
      cases even
      · go_wp2_with fail
        go_ret
        refine ⟨?_, b_drew (Below.refl _ _)⟩
        simp [Fl.insideP, *]
      · go_wp2_with fail
        go_ret
        refine ⟨?_, b_drew (Below.refl _ _)⟩
        simp [Fl.insideP, *]
  · subst hx
    rcases Int.lt_trichotomy y 0 with hy | hy | hy
    · have b1 : decide (y < 0) = true := decide_eq_true (by omega)
      have b2 : (y == 0) = false := by rw [beq_eq_false_iff_ne]; omega
      clear hy
      cases even
      · go_wp2_with fail
        go_ret
        refine ⟨?_, b_drew (Below.refl _ _)⟩
        simp [Fl.insideP, *]
      · go_wp2_with fail
        go_ret
        refine ⟨?_, b_drew (Below.refl _ _)⟩
        simp [Fl.insideP, *]
    · subst hy
      cases even
      · go_wp2_with fail
        go_ret
        refine ⟨?_, b_drew (Below.refl _ _)⟩
        simp [Fl.insideP, *]
      · go_wp2_with fail
        go_ret
        refine ⟨?_, b_drew (Below.refl _ _)⟩
        simp [Fl.insideP, *]
    · have b1 : decide (y < 0) = false := decide_eq_false (by omega)
      have b2 : (y == 0) = false := by rw [beq_eq_false_iff_ne]; omega
      clear hy
      cases even
      · go_wp2_with fail
        go_ret
        refine ⟨?_, b_drew (Below.refl _ _)⟩
        simp [Fl.insideP, *]
      · go_wp2_with fail
        go_ret
        refine ⟨?_, b_drew (Below.refl _ _)⟩
        simp [Fl.insideP, *]
  · have a1 : decide (0 < x) = true := decide_eq_true (by omega)
    have a2 : (x == 0) = false := by rw [beq_eq_false_iff_ne]; omega
    clear hx
    rcases Int.lt_trichotomy y 0 with hy | hy | hy
    · have b1 : decide (y < 0) = true := decide_eq_true (by omega)
      have b2 : (y == 0) = false := by rw [beq_eq_false_iff_ne]; omega
      clear hy
      cases even
      · go_wp2_with fail
        go_ret
        refine ⟨?_, b_drew (Below.refl _ _)⟩
        simp [Fl.insideP, *]
      · go_wp2_with fail
        go_ret
        refine ⟨?_, b_drew (Below.refl _ _)⟩
        simp [Fl.insideP, *]
    · subst hy
      cases even
      · go_wp2_with fail
        go_ret
        refine ⟨?_, b_drew (Below.refl _ _)⟩
        simp [Fl.insideP, *]
      · go_wp2_with fail
        go_ret
        refine ⟨?_, b_drew (Below.refl _ _)⟩
        simp [Fl.insideP, *]
    · have b1 : decide (y < 0) = false := decide_eq_false (by omega)
      have b2 : (y == 0) = false := by rw [beq_eq_false_iff_ne]; omega
      clear hy
      cases even
      · go_wp2_with fail
        go_ret
        refine ⟨?_, b_drew (Below.refl _ _)⟩
        simp [Fl.insideP, *]
      · go_wp2_with fail
        go_ret
        refine ⟨?_, b_drew (Below.refl _ _)⟩
        simp [Fl.insideP, *]
end Go.Proofs.YtjapgpmoojfhnaaGreatDoor

namespace Go.Proofs.YtjapgpmoojfhnaaGreatDoor
open Go.RowKit Go.Lib

theorem b_trans {a W W' : World} (h : Below a.heap.size a W) (hb : Below W.heap.size W W') : Below a.heap.size a W' := h.trans (hb.mono h.size)
theorem cmp_head (a b : UInt8) (x y : List UInt8) : (a < b → Lib.compareBytes (a :: x) (b :: y) = -1) ∧ (b < a → Lib.compareBytes (a :: x) (b :: y) = 1) := by
  refine ⟨fun h => ?_, fun h => ?_⟩
  · rw [Lib.compareBytes, if_pos h]
  · rw [Lib.compareBytes, if_neg (fun h2 => by
      have h1 : b.toNat < a.toNat := h
      have h3 : a.toNat < b.toNat := h2
      omega), if_pos h]
/-- The order of two texts of one length whose first bytes part. -/
theorem ord_head {A B : ByteArray} {a b : UInt8} {x y : List UInt8} (hA : A.data.toList = a :: x) (hB : B.data.toList = b :: y) (hl : x.length = y.length) : (a < b → ordB A B = -1) ∧ (b < a → ordB A B = 1) := by
  have hs : A.size = B.size := by
    have h1 : A.size = A.data.toList.length := by rw [Array.length_toList]; rfl
    have h2 : B.size = B.data.toList.length := by rw [Array.length_toList]; rfl
    rw [h1, h2, hA, hB]; simp [hl]
  obtain ⟨c1, c2⟩ := cmp_head a b x y
  unfold ordB
  rw [if_pos hs, hA, hB]
  exact ⟨c1, c2⟩
theorem trim_zeros (n : Nat) : trimRightB (53 :: List.replicate n 48) 48 = [53] := by
  unfold trimRightB
  rw [List.reverse_cons, List.reverse_replicate]
  have e : (List.replicate n (48 : UInt8) ++ [53]).dropWhile (· == 48) = [53] := by
    induction n with
    | zero => rfl
    | succ n ih => rw [List.replicate_succ, List.cons_append, List.dropWhile_cons_of_pos (by rfl)]; exact ih
  rw [e]
  rfl
theorem txt_one : Fl.txt 1 = [49, 112, 45, 49, 48, 55, 52] := by kernel_rfl
theorem split_one (w : World) (hL : Laid w) : Calls Tryz.prog 66 #[.float .f64 1] w fun x w' => x = .returned (.tuple #[.int .u64 1, .int .i64 (-1074)]) ∧ w' = w := by
  have h := split_any 1 w (by decide) (by decide) (by decide) hL
  have e1 : Fl.rmag Ieee.double (1 % 9223372036854775808) / 2 ^ tzN (Fl.rmag Ieee.double (1 % 9223372036854775808)) = 1 := by kernel_rfl
  have e2 : Fl.rplace Ieee.double (1 % 9223372036854775808) + (tzN (Fl.rmag Ieee.double (1 % 9223372036854775808)) : Nat) = -1074 := by kernel_rfl
  rw [e1, e2] at h
  exact h
set_option maxHeartbeats 2000000 in
set_option maxRecDepth 100000 in
theorem shortest_one (w : World) (hL : Laid w) : Calls Tryz.prog 36 #[.string ⟨(Fl.txt 1).toArray⟩] w fun x w' => x = .returned (.tuple #[.string ⟨#[53, 101, 45, 51, 50, 52]⟩, .int .i64 0]) ∧ Below w.heap.size w w' := by
  have FI := Lib.hid (fun W hW => finite_num 1 (by decide) (by decide) W hW)
  have o1 : (FloatKind.f64.format.order 1 0 == some Ordering.eq) = false := by rw [ord_zero (by decide) (by decide)]; decide
  have o2 : (FloatKind.f64.format.order 1 0 == some Ordering.lt) = false := by rw [ord_lt (by decide) (by decide)]; decide
  have SP := Lib.hid (fun W hW => split_one W hW)
  have LN : ∀ W, Calls Tryz.prog 67 #[.int .u64 1] W fun x w' => x = .returned (.int .i64 1) ∧ w' = W := fun W => Tryz.bits_Len64 1 W (by decide) (by decide)
  obtain ⟨v, lo, hi, t1, t2, t3, l1, l2, l3⟩ := Fl.ex_texts
  obtain ⟨K, hK⟩ : ∃ K, K = 1076 := ⟨_, rfl⟩
  obtain ⟨e1, e2, e3⟩ := Fl.ex_pow hK
  have S1 : ∀ W, Laid W → Calls Tryz.prog 73 #[.int .u64 4, .int .i64 (-1076)] W fun x w' => x = .returned (.string ⟨(52 :: 57 :: v).toArray⟩) ∧ Below W.heap.size W w' := fun W hW => by
    have h := scaled_neg 4 K (-1076) W hW (by decide) (by decide) (by omega) (by decide) (by omega)
    rw [e1, t1] at h
    exact h
  have S2 : ∀ W, Laid W → Calls Tryz.prog 73 #[.int .u64 2, .int .i64 (-1076)] W fun x w' => x = .returned (.string ⟨(50 :: 52 :: lo).toArray⟩) ∧ Below W.heap.size W w' := fun W hW => by
    have h := scaled_neg 2 K (-1076) W hW (by decide) (by decide) (by omega) (by decide) (by omega)
    rw [e2, t2] at h
    exact h
  have S3 : ∀ W, Laid W → Calls Tryz.prog 73 #[.int .u64 6, .int .i64 (-1076)] W fun x w' => x = .returned (.string ⟨(55 :: 52 :: hi).toArray⟩) ∧ Below W.heap.size W w' := fun W hW => by
    have h := scaled_neg 6 K (-1076) W hW (by decide) (by decide) (by omega) (by decide) (by omega)
    rw [e3, t3] at h
    exact h
  obtain ⟨VB, hVB⟩ : ∃ B : ByteArray, (⟨(52 :: 57 :: v).toArray⟩ : ByteArray) = B := ⟨_, rfl⟩
  obtain ⟨LB, hLB⟩ : ∃ B : ByteArray, (⟨(50 :: 52 :: lo).toArray⟩ : ByteArray) = B := ⟨_, rfl⟩
  obtain ⟨HB, hHB⟩ : ∃ B : ByteArray, (⟨(55 :: 52 :: hi).toArray⟩ : ByteArray) = B := ⟨_, rfl⟩
  rw [hVB] at S1
  rw [hLB] at S2
  rw [hHB] at S3
  have v1 : VB.size = 753 := by rw [← hVB, str_size]; simp [l1]
  have S1 := Lib.hid S1
  have S2 := Lib.hid S2
  have S3 := Lib.hid S3
  have LN := Lib.hid LN
  have HL := Lib.hid hL
  have HT := Lib.hid (And.intro hVB (And.intro hLB (And.intro hHB (And.intro l1 (And.intro l2 l3)))))
  clear hK e1 e2 e3 hVB hLB hHB l1 l2 l3 t1 t2 t3 hL
  go_enter Tryz.func36, Tryz.ntmps36
  go_wp2_with fail
  refine (FI.out _ HL.out).mono ?_
  rintro x w1 ⟨rfl, hb1⟩
  have hL1 := HL.out.on hb1
  go_wp2_with fail
  refine (SP.out _ hL1).mono ?_
  rintro x w2 ⟨rfl, rfl⟩
  go_wp2_with fail
  go_loopg [6, 7] 0 (fun _ t6 t7 wx => t6 = .int .u64 1 ∧ t7 = .int .i64 (-1074) ∧ wx = w2)
  case atStart => exact ⟨rfl, rfl, rfl⟩
  case round =>
    obtain ⟨rfl, rfl, hww⟩ := hrel
    subst hww
    obtain ⟨w2, hw2⟩ : ∃ W, W = wr := ⟨_, rfl⟩
    subst hw2
    go_wp2_with fail
    refine (LN.out _).mono ?_
    rintro x w3 ⟨rfl, rfl⟩
    go_upto_region 16 with fail
    obtain ⟨ev, hev⟩ : ∃ ev, (bits BinOp.and IntKind.u64 1 1 == 0) = ev := ⟨_, rfl⟩
    rw [hev]
    obtain ⟨wa, hwa⟩ : ∃ wa, w3.alloc (.cells #[.bool ev] 4) = wa := ⟨_, rfl⟩
    obtain ⟨XE, hXE⟩ : ∃ XE, w3.heap.size = XE := ⟨_, rfl⟩
    have hE := heap_alloc_new w3 (.cells #[.bool ev] 4)
    rw [hwa, hXE] at hE
    have hba : Below w3.heap.size w3 wa := by rw [← hwa]; exact (Below.refl _ _).alloc (Nat.le_refl _) _
    have hLa := hL1.on hba
    have hca := hb1.trans (hba.mono hb1.size)
    rw [hwa, hXE]
    have HE := Lib.hid hE
    have HA := Lib.hid hca
    have HLa := Lib.hid hLa
    clear hev hwa hXE hE hba hL1 hb1 hLa hca
    go_wp2_with fail
    refine (S1.out _ HLa.out).mono ?_
    rintro x w4 ⟨rfl, hb4⟩
    have hL4 := HLa.out.on hb4
    go_wp2_with fail
    refine (S2.out _ hL4).mono ?_
    rintro x w5 ⟨rfl, hb5⟩
    have hL5 := hL4.on hb5
    go_wp2_with fail
    refine (S3.out _ hL5).mono ?_
    rintro x w6 ⟨rfl, hb6⟩
    have hL6 := hL5.on hb6
    have hab := (hb4.trans (hb5.mono hb4.size))
    have habc := hab.trans (hb6.mono hab.size)
    have HB6 := Lib.hid habc
    have HL6 := Lib.hid hL6
    clear hL4 hL5 hL6 hb4 hb5 hb6 hab habc
    go_upto_region 19 with fail
    have q := two_blocks w6 (.cells #[.string LB] 9) (.cells #[.string HB] 9)
    obtain ⟨wB, hwB⟩ : ∃ wB, (w6.alloc (.cells #[.string LB] 9)).alloc (.cells #[.string HB] 9) = wB := ⟨_, rfl⟩
    obtain ⟨X, hX⟩ : ∃ X, w6.heap.size = X := ⟨_, rfl⟩
    rw [hwB, hX] at q
    rw [hwB, hX, show min (-1076 : Int) 0 = -1076 by decide]
    obtain ⟨q1, q2, q3, q4⟩ := q
    have hEb := lt_of_block HE.out
    have hsz := HB6.out.size
    have hCells : ∀ W, Below wB.heap.size wB W → W.cell? ⟨X, 0, none⟩ = some (.string LB) ∧ W.cell? ⟨X + 1, 0, none⟩ = some (.string HB) ∧ W.cell? ⟨XE, 0, none⟩ = some (.bool ev) := fun W hW => by
      refine ⟨at_block ((hW.block X (by omega)).trans q1) 0 _ rfl, at_block ((hW.block (X + 1) (by omega)).trans q2) 0 _ rfl, ?_⟩
      have e1 := (hW.block XE (by omega)).trans ((q3.block XE (by omega)).trans ((HB6.out.block XE hEb).trans HE.out))
      exact at_block e1 0 _ rfl
    have hLB := HL6.out.on (show Below w6.heap.size w6 wB by rw [hX]; exact q3)
    have hcB := (HA.out.trans (HB6.out.mono HA.out.size)).trans (q3.mono (by have := HA.out.size; omega))
    have HC := Lib.hid hCells
    have HLB2 := Lib.hid hLB
    have HCB := Lib.hid hcB
    have HXq := Lib.hid hX
    clear hwB hX q1 q2 q3 q4 hEb hsz hCells hLB hcB
    have RP : ∀ W, Calls Tryz.prog 76 #[.string ⟨#[48]⟩, .int .i64 752] W fun z w' => z = .returned (.string ⟨(repeatL [48] 752).toArray⟩) ∧ Below W.heap.size W w' := fun W => Tryz.strings_Repeat ⟨#[48]⟩ 752 W (by decide) (by decide)
    obtain ⟨ZB, hZB⟩ : ∃ ZB : ByteArray, (⟨(repeatL [48] 752).toArray⟩ : ByteArray) = ZB := ⟨_, rfl⟩
    rw [hZB] at RP
    have RP := Lib.hid RP
    have zs : ZB.size = 752 := by rw [← hZB, str_size, repeatL_length]; rfl
    have HZB := Lib.hid hZB
    clear hZB
    have v2 : VB.extract 0 1 = ⟨#[52]⟩ := by rw [← HT.out.1]; apply ByteArray.ext; simp
    have NF := Lib.hid (fun W => next_four W)
    go_wp2_with fail
    go_loopg [15, 16, 17, 18, 19, 20, 21] 0 (fun _ t15 _ _ _ _ _ _ wx => t15 = .int .i64 1 ∧ wx = wB)
    case atStart => exact ⟨rfl, rfl⟩
    case round =>
      obtain ⟨rfl, hww⟩ := hrel
      subst hww
      obtain ⟨wB, hw2⟩ : ∃ W, W = wr := ⟨_, rfl⟩
      subst hw2
      go_wp2_with fail
      refine (RP.out _).mono ?_
      rintro x w7 ⟨rfl, hb7⟩
      go_upto_region 23 with fail
      obtain ⟨DN, hDN⟩ : ∃ DN : ByteArray, (⟨#[52]⟩ : ByteArray) ++ ZB = DN := ⟨_, rfl⟩
      obtain ⟨UP, hUP⟩ : ∃ UP : ByteArray, (⟨#[53]⟩ : ByteArray) ++ ZB = UP := ⟨_, rfl⟩
      have a1 := fun W => run_string_add_sum (P := Tryz.prog) (w := W) ⟨#[52]⟩ ZB (by rw [zs]; decide)
      have a2 := fun W => run_string_add_sum (P := Tryz.prog) (w := W) ⟨#[53]⟩ ZB (by rw [zs]; decide)
      rw [hDN] at a1
      rw [hUP] at a2
      have hDs : DN.size = 753 := by rw [← hDN, ByteArray.size_append, zs]; rfl
      have hUs : UP.size = 753 := by rw [← hUP, ByteArray.size_append, zs]; rfl
      have hDl : DN.data.toList = 52 :: repeatL [48] 752 := by rw [← hDN, ← HZB.out]; simp
      have hUl : UP.data.toList = 53 :: repeatL [48] 752 := by rw [← hUP, ← HZB.out]; simp
      obtain ⟨t1, t2, t3, t4, t5, t6⟩ := HT.out
      have hLs : LB.size = 753 := by rw [← t2, str_size]; simp [t5]
      have hHs : HB.size = 753 := by rw [← t3, str_size]; simp [t6]
      have hrl : (repeatL [48] 752).length = 752 := by rw [repeatL_length]; rfl
      have i1 : Fl.insideP (ordB DN LB) (ordB DN HB) ev = true := by
        rw [(ord_head hDl (show LB.data.toList = 50 :: 52 :: lo by rw [← t2]) (by rw [hrl]; simp [t5])).2 (by decide), (ord_head hDl (show HB.data.toList = 55 :: 52 :: hi by rw [← t3]) (by rw [hrl]; simp [t6])).1 (by decide)]
        rfl
      have i2 : Fl.insideP (ordB UP LB) (ordB UP HB) ev = true := by
        rw [(ord_head hUl (show LB.data.toList = 50 :: 52 :: lo by rw [← t2]) (by rw [hrl]; simp [t5])).2 (by decide), (ord_head hUl (show HB.data.toList = 55 :: 52 :: hi by rw [← t3]) (by rw [hrl]; simp [t6])).1 (by decide)]
        rfl
      have ID := fun W h => inside_any DN LB HB ev ⟨X, 0, none⟩ ⟨X + 1, 0, none⟩ ⟨XE, 0, none⟩ W (HC.out W h).1 (HC.out W h).2.1 (HC.out W h).2.2 (by omega) (by omega) (by omega)
      have IU := fun W h => inside_any UP LB HB ev ⟨X, 0, none⟩ ⟨X + 1, 0, none⟩ ⟨XE, 0, none⟩ W (HC.out W h).1 (HC.out W h).2.1 (HC.out W h).2.2 (by omega) (by omega) (by omega)
      rw [i1] at ID
      rw [i2] at IU
      have ID := Lib.hid ID
      have IU := Lib.hid IU
      have HUP := Lib.hid (And.intro hUl hUs)
      clear hDN hUP hDs hUs hDl hUl t1 t2 t3 t4 t5 t6 hLs hHs hrl i1 i2
      go_region_held3 (fun W => Below wB.heap.size wB W) ((first | assumption | exact b_drew (by assumption))) (first | (go_at_call 77; refine (NF.out _).mono ?_; rintro x w8 ⟨rfl, hb8⟩; have hb8' := b_trans (by assumption) hb8))
      clear hb7 hb8
      go_wp2_with fail
      refine (ID.out _ hb8').mono ?_
      rintro x w9 ⟨rfl, hb9⟩
      have hb9' := b_trans hb8' hb9
      go_wp2_with fail
      refine (IU.out _ hb9').mono ?_
      rintro x w10 ⟨rfl, hb10⟩
      have hb10' := b_trans hb9' hb10
      clear hb8' hb9 hb9' hb10
      go_upto_region 25 with fail
      obtain ⟨VT, hVT⟩ : ∃ VT, VB.extract 1 753 = VT := ⟨_, rfl⟩
      obtain ⟨Z1, hZ1⟩ : ∃ Z1, ZB.extract 1 752 = Z1 := ⟨_, rfl⟩
      obtain ⟨HF, hHF⟩ : ∃ HF : ByteArray, (⟨#[53]⟩ : ByteArray) ++ Z1 = HF := ⟨_, rfl⟩
      obtain ⟨t1, t2, t3, t4, t5, t6⟩ := HT.out
      have hVl : VT.data.toList = 57 :: v := by
        rw [← hVT, ← t1]
        simp
        exact List.take_of_length_le (by omega)
      have hZl : Z1.data.toList = repeatL [48] 751 := by
        rw [← hZ1, ← HZB.out]
        have e : repeatL [48] 752 = 48 :: repeatL [48] 751 := rfl
        rw [e]
        simp
        exact List.take_of_length_le (by rw [repeatL_length]; decide)
      have hZs : Z1.size = 751 := by
        have h1 : Z1.size = Z1.data.toList.length := by rw [Array.length_toList]; rfl
        rw [h1, hZl, repeatL_length]; rfl
      have hHl : HF.data.toList = 53 :: repeatL [48] 751 := by rw [← hHF]; simp [hZl]
      have a3 := fun W => run_string_add_sum (P := Tryz.prog) (w := W) ⟨#[53]⟩ Z1 (by rw [hZs]; decide)
      rw [hHF] at a3
      have CM := fun W => Tryz.strings_Compare VT HF W
      rw [hVl, hHl, (cmp_head 57 53 v (repeatL [48] 751)).2 (by decide)] at CM
      have CM := Lib.hid CM
      obtain ⟨hUl, hUs⟩ := HUP.out
      have it : itoa (-324) = [45, 51, 50, 52] := by kernel_rfl
      have CA := fun W hW => canonical_any UP ⟨#[53]⟩ (-1076) (-324) W (by omega) (by rw [hUl, Fl.repeat_one, trim_zeros]) (by decide) (by decide) (by rw [hUs]; decide) (by rw [it]; decide) hW
      have e9 : (⟨#[53]⟩ : ByteArray) ++ ⟨#[101]⟩ ++ ⟨(itoa (-324)).toArray⟩ = ⟨#[53, 101, 45, 51, 50, 52]⟩ := by kernel_rfl
      rw [e9] at CA
      have CA := Lib.hid CA
      clear t1 t2 t3 t4 t5 t6 hVl hZl hHl hHF hUl hUs e9 it
      go_region_held3 (fun W => Below wB.heap.size wB W) ((first | assumption | exact b_drew (by assumption))) (first | (go_at_call 78; with_reducible refine (CM.out _).mono ?_; rintro x w8 ⟨rfl, rfl⟩))
      have hbq := b_drew hb10'
      have hLq := HLB2.out.on hbq
      have HBQ := Lib.hid (And.intro (b_trans HCB.out hbq) hLq)
      clear hb10' hbq hLq
      go_wp2_with fail
      refine (CA.out _ HBQ.out.2).mono ?_
      rintro x w11 ⟨rfl, hb11⟩
      go_wp2_with fail
      go_ret2
      exact ⟨rfl, b_trans HBQ.out.1 hb11⟩
end Go.Proofs.YtjapgpmoojfhnaaGreatDoor
