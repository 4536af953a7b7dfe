/- The reference: Numeral, the code behind the fraction. -/
import Derived.Test.YtmgafnflkfbckaaGreatDoorWalkW
import Derived.Test.YtmgafnflkfbckaaGreatDoorPlain8
namespace Go.Proofs.YtmgafnflkfbckaaGreatDoor
open Go.RowKit Go.Lib

/-- How Numeral and Read end. -/
def RNumEnd (base : Nat) (w : World) (x : Ending) (r : Option Dc.D) : Prop := ∃ g A n c e, x = .returned (.tuple #[.agg #[.bool g, .slice A n c, .int .i64 e], .bool r.isSome]) ∧
  ∀ y, r = some y → g = y.neg ∧ n = y.c.length ∧ e = y.e ∧ w.ownsRow base 3 1 (.slice A n c) n (i64s y.c)
theorem RNumEnd.bad {base : Nat} {w : World} {x : Ending} {r : Option Dc.D} (hr : r = none) (hx : x = .returned (.tuple #[.agg #[.bool false, .slice none 0 0, .int .i64 0], .bool false])) : RNumEnd base w x r :=
  ⟨false, none, 0, 0, 0, by rw [hx, hr]; rfl, fun y hy => by rw [hr] at hy; cases hy⟩
theorem drop_head {s : ByteArray} {L : List UInt8} (hL : s.data.toList = L) {q : Nat} (hq : q < s.size) {d : UInt8} (hd : s[q]'hq = d) : (L.drop q).head? = some d := by
  rw [List.head?_eq_getElem?, List.getElem?_drop, Nat.add_zero, ← hL]; exact byte_at hq hd
theorem drop_end {s : ByteArray} {L : List UInt8} (hL : s.data.toList = L) {q : Nat} (hq : ¬ q < s.size) : L.drop q = [] := List.drop_eq_nil_of_le (by rw [← hL, data_len]; omega)

/-- The code behind the fraction. -/
def hdC : Code → Nat
  | .seq a _ => hdC a
  | .region k _ _ => k
  | _ => 100000
def fromC (n : Nat) : Code → Code
  | .seq a b => if hdC a == n then .seq a b else fromC n b
  | c => c
noncomputable def suf25 : Code := fromC 17 (Tryz.f17.body.getD .skip)

set_option maxHeartbeats 2000000 in
set_option maxRecDepth 100000 in
theorem numeral_tail (s : ByteArray) (L : List UInt8) (w w1 w3 : World) (X q n cp : Nat) (neg : Bool) (A : Option Addr) (C c0 : List Nat) (S1 : List UInt8) (e1 : Int) (R : Option Dc.D) (u1 u3 u7 u9 u10 u11 u12 u13 u14 u15 u16 u17 u18 u19 u20 u21 u22 u23 u24 u25 u26 u27 u28 u29 u30 u31 u32 u33 u34 u35 u36 u37 u38 u39 u40 u41 u42 u43 u44 u45 u46 u47 u48 u49 u50 u51 u52 u53 u54 u55 u56 u57 u58 u59 u60 u61 u62 u63 u64 u65 u66 u67 u68 u69 u70 u71 u72 u73 u74 u75 u76 u77 u78 u79 u80 u81 u82 u83 u84 u85 u86 u87 u88 u89 u90 u91 u92 u93 u94 u95 u96 u97 u98 u99 u100 u101 u102 u103 u104 u105 u106 u107 u108 u109 u110 u111 u112 u113 u114 u115 u116 u117 u118 u119 u120 u121 u122 u123 u124 u125 u126 u127 u128 u129 u130 u131 u132 u133 u134 u135 u136 u137 u138 u139 u140 u141 u142 u143 u144 u145 u146 u147 u148 u149 u150 u151 u152 u153 u154 : Value) (K : Act → World → Prop)
    (hK : ∀ a w', Code.wp Tryz.prog suf25 (bodyPost Tryz.prog Tryz.f17 fun x w' => RNumEnd w.heap.size w' x R ∧ Below w.heap.size w w') a w' → K a w')
    (hs : s.size ≤ 1048576) (HX : Hid (w.heap.size = X)) (HL : Hid (s.data.toList = L)) (HLS : Hid (L.length = s.size)) (hb1 : Below X w w1) (hlt1 : X < w1.heap.size)
    (HX1 : Hid (w1.heap[X]? = some (.cells #[.bool false, .slice none 0 0, .int .i64 0] 25 (0, 0)))) (HNUM : Hid (R = (Dc.numFrac 1000000 c0 S1).map fun p => Dc.norm neg p.1 p.2))
    (hqs : q ≤ s.size) (hrC : Reads w3 w3.heap.size A n (i64s C)) (hdC : Dc.Digs C) (hn4 : n ≤ 4194304) (he0 : -4194304 ≤ e1) (he1 : e1 ≤ 0) (hb3 : Below w1.heap.size w1 w3)
    (hfrac : Dc.numFrac 1000000 c0 S1 = (Dc.numTail 1000000 (L.drop q)).map fun k => (C, e1 + k)) :
    K ⟨#[.string s, u1, .pointer (some ⟨X, 0, none⟩), u3, .int .i64 (q : Int), .bool neg, .slice A n cp, u7, .int .i64 e1, u9, u10, u11, u12, u13, u14, u15, u16, u17, u18, u19, u20, u21, u22, u23, u24, u25, u26, u27, u28, u29, u30, u31, u32, u33, u34, u35, u36, u37, u38, u39, u40, u41, u42, u43, u44, u45, u46, u47, u48, u49, u50, u51, u52, u53, u54, u55, u56, u57, u58, u59, u60, u61, u62, u63, u64, u65, u66, u67, u68, u69, u70, u71, u72, u73, u74, u75, u76, u77, u78, u79, u80, u81, u82, u83, u84, u85, u86, u87, u88, u89, u90, u91, u92, u93, u94, u95, u96, u97, u98, u99, u100, u101, u102, u103, u104, u105, u106, u107, u108, u109, u110, u111, u112, u113, u114, u115, u116, u117, u118, u119, u120, u121, u122, u123, u124, u125, u126, u127, u128, u129, u130, u131, u132, u133, u134, u135, u136, u137, u138, u139, u140, u141, u142, u143, u144, u145, u146, u147, u148, u149, u150, u151, u152, u153, u154], []⟩ w3 := by
  refine hK _ _ ?_
  conv => arg 4; zeta
  conv => arg 2; whnf
  obtain ⟨S3, hS3⟩ : ∃ S3, L.drop q = S3 := ⟨_, rfl⟩
  rw [hS3] at hfrac
  have hnum2 : R = (Dc.numTail 1000000 S3).map fun k => Dc.norm neg C (e1 + k) := by rw [HNUM.out, hfrac, Option.map_map]; rfl
  have HS3 := Lib.hid hS3
  have HNUM2 := Lib.hid hnum2
  have HRC := Lib.hid hrC
  have HDC := Lib.hid hdC
  have hq0 : (0 : Int) ≤ (q : Int) := by omega
  have hCl : C.length = n := by have := hrC.1; rwa [i64s_len] at this
  have HCl := Lib.hid hCl
  obtain ⟨ex, hex⟩ : ∃ b, (decide (S3.head? = some 101) || decide (S3.head? = some 69)) = b := ⟨_, rfl⟩
  have HEX := Lib.hid hex
  clear hS3 hnum2 hrC hdC hCl hfrac hex hK
  go_upto_region 17 with fail
  go_cut [92] (fun t wx => t = .bool ex ∧ wx = w3)
  case first =>
    by_cases hql : q < s.size
    · have hin : (q : Int) < (s.size : Int) := by omega
      obtain ⟨d, hd⟩ : ∃ d : UInt8, s[q]'hql = d := ⟨_, rfl⟩
      have hh := drop_head HL.out hql hd
      rw [HS3.out] at hh
      by_cases h101 : d = 101
      · have hf : ((d.toNat : Int) == 101) = true := by subst h101; rfl
        have hv : ex = true := by rw [← HEX.out, hh, h101]; simp
        have HV := Lib.hid hv
        clear hv hh h101
        go_wp2_with fail
        go_meet
        exact ⟨by rw [HV.out], rfl⟩
      · have hf : ((d.toNat : Int) == 101) = false := byte_ne (c := 101) (n := 101) rfl h101
        by_cases h69 : d = 69
        · have hf2 : ((d.toNat : Int) == 69) = true := by subst h69; rfl
          have hv : ex = true := by rw [← HEX.out, hh, h69]; simp
          have HV := Lib.hid hv
          clear hv hh h69 h101
          go_wp2_with fail
          go_meet
          exact ⟨by rw [HV.out], rfl⟩
        · have hf2 : ((d.toNat : Int) == 69) = false := byte_ne (c := 69) (n := 69) rfl h69
          have hv : ex = false := by rw [← HEX.out, hh]; simp [h69, h101]
          have HV := Lib.hid hv
          clear hv hh h69 h101
          go_wp2_with fail
          go_meet
          exact ⟨by rw [HV.out], rfl⟩
    · have hin : ¬ (q : Int) < (s.size : Int) := by omega
      have hv : ex = false := by
        have := drop_end HL.out hql
        rw [HS3.out] at this
        rw [← HEX.out, this]; rfl
      have HV := Lib.hid hv
      clear hv
      go_wp2_with fail
      go_meet
      exact ⟨by rw [HV.out], rfl⟩
  case rest =>
    obtain ⟨rfl, hwc⟩ := hcut
    subst hwc
    obtain ⟨w3, hw3⟩ : ∃ W, W = wc := ⟨_, rfl⟩
    subst hw3
    go_upto_if 92 with fail
    go_cut [4, 8] (fun t4 t8 wx => ∃ (q2 : Nat) (e2 : Int), t4 = .int .i64 (q2 : Int) ∧ t8 = .int .i64 e2 ∧ q2 ≤ s.size ∧ -8000000 ≤ e2 ∧ e2 ≤ 8000000 ∧ Below w3.heap.size w3 wx ∧
      Dc.numTail 1000000 S3 = if q2 = s.size then some (e2 - e1) else none)
    case first =>
      cases hee : ex with
      | false =>
        have hne : S3.head? ≠ some 101 ∧ S3.head? ≠ some 69 := by have := HEX.out; rw [hee] at this; simpa using this
        have hS3l : S3.length = s.size - q := by rw [← HS3.out, List.length_drop, HLS.out]
        have HNE := Lib.hid hne
        have HS3L := Lib.hid hS3l
        clear hne hS3l hee
        go_wp2_with fail
        go_meet
        refine ⟨q, e1, rfl, rfl, hqs, by omega, by omega, Below.refl _ _, ?_⟩
        have h1 := HNE.out
        have h2 := HS3L.out
        cases hS : S3 with
        | nil => rw [hS] at h2; rw [if_pos (by simp at h2; omega), Int.sub_self]; rfl
        | cons b T =>
          rw [hS] at h1 h2
          rw [if_neg (by simp at h2; omega)]
          exact Dc.tail_bad (b := b) rfl (by simpa using h1.1) (by simpa using h1.2)
      | true =>
        obtain ⟨b, hb, hbe⟩ : ∃ b, S3.head? = some b ∧ (b = 101 ∨ b = 69) := by
          have h1 := HEX.out
          rw [hee] at h1
          rw [Bool.or_eq_true, decide_eq_true_eq, decide_eq_true_eq] at h1
          rcases h1 with h1 | h1
          · exact ⟨101, h1, Or.inl rfl⟩
          · exact ⟨69, h1, Or.inr rfl⟩
        have hql : q < s.size := by
          have h1 := (Dc.head_drop hb).2
          have h2 := HS3.out
          rw [← h2, List.length_drop, HLS.out] at h1
          omega
        obtain ⟨y, hy⟩ : ∃ y, q + 1 = y := ⟨_, rfl⟩
        have hqy : (q : Int) + 1 = (y : Int) := by omega
        have hys : y ≤ s.size := by omega
        obtain ⟨T1, hT1⟩ : ∃ T1, S3.drop 1 = T1 := ⟨_, rfl⟩
        have hLy : L.drop y = T1 := by rw [← hT1, ← HS3.out, List.drop_drop, hy]
        obtain ⟨g, hg⟩ : ∃ g, (decide (T1.head? = some 43) || decide (T1.head? = some 45)) = g := ⟨_, rfl⟩
        have HBH := Lib.hid hb
        have HBE := Lib.hid hbe
        have HQY := Lib.hid hqy
        have HT1 := Lib.hid hT1
        have HLY := Lib.hid hLy
        have HG := Lib.hid hg
        have hy0 : (0 : Int) ≤ (y : Int) := by omega
        clear hb hbe hy hqy hT1 hLy hg hee
        go_upto_region 20 with fail
        rw [HQY.out]
        go_cut [110] (fun t wx => t = .bool g ∧ wx = w3)
        case first =>
          by_cases hyl : y < s.size
          · have hin : (y : Int) < (s.size : Int) := by omega
            obtain ⟨d, hd⟩ : ∃ d : UInt8, s[y]'hyl = d := ⟨_, rfl⟩
            have hh := drop_head HL.out hyl hd
            rw [HLY.out] at hh
            by_cases h43 : d = 43
            · have hf : ((d.toNat : Int) == 43) = true := by subst h43; rfl
              have hv : g = true := by rw [← HG.out, hh, h43]; simp
              have HV := Lib.hid hv
              clear hv hh h43
              go_wp2_with fail
              go_meet
              exact ⟨by rw [HV.out], rfl⟩
            · have hf : ((d.toNat : Int) == 43) = false := byte_ne (c := 43) (n := 43) rfl h43
              by_cases h45 : d = 45
              · have hf2 : ((d.toNat : Int) == 45) = true := by subst h45; rfl
                have hv : g = true := by rw [← HG.out, hh, h45]; simp
                have HV := Lib.hid hv
                clear hv hh h43 h45
                go_wp2_with fail
                go_meet
                exact ⟨by rw [HV.out], rfl⟩
              · have hf2 : ((d.toNat : Int) == 45) = false := byte_ne (c := 45) (n := 45) rfl h45
                have hv : g = false := by rw [← HG.out, hh]; simp [h43, h45]
                have HV := Lib.hid hv
                clear hv hh h43 h45
                go_wp2_with fail
                go_meet
                exact ⟨by rw [HV.out], rfl⟩
          · have hin : ¬ (y : Int) < (s.size : Int) := by omega
            have hv : g = false := by
              have := drop_end HL.out hyl
              rw [HLY.out] at this
              rw [← HG.out, this]; rfl
            have HV := Lib.hid hv
            clear hv
            go_wp2_with fail
            go_meet
            exact ⟨by rw [HV.out], rfl⟩
        case rest =>
          obtain ⟨rfl, hwc⟩ := hcut
          subst hwc
          obtain ⟨w3, hw3⟩ : ∃ W, W = wc := ⟨_, rfl⟩
          subst hw3
          go_upto_if 110 with fail
          go_cut [4, 11] (fun t4 t11 wx => ∃ (y2 : Nat) (σ : Int), t4 = .int .i64 (y2 : Int) ∧ t11 = .int .i64 σ ∧ y2 ≤ s.size ∧ (σ = 1 ∨ σ = -1) ∧ (if T1.head? = some 45 then σ = -1 else σ = 1) ∧ wx = w3 ∧
            L.drop y2 = if T1.head? = some 45 ∨ T1.head? = some 43 then T1.drop 1 else T1)
          case first =>
            cases hgg : g with
            | false =>
              have hne : T1.head? ≠ some 43 ∧ T1.head? ≠ some 45 := by have := HG.out; rw [hgg] at this; simpa using this
              have HNE := Lib.hid hne
              clear hne hgg
              go_wp2_with fail
              go_meet
              refine ⟨y, 1, rfl, rfl, hys, Or.inl rfl, by rw [if_neg HNE.out.2], rfl, ?_⟩
              rw [if_neg (by rintro (h | h); exact HNE.out.2 h; exact HNE.out.1 h), HLY.out]
            | true =>
              have hor : T1.head? = some 45 ∨ T1.head? = some 43 := by
                have := HG.out
                rw [hgg, Bool.or_eq_true, decide_eq_true_eq, decide_eq_true_eq] at this
                exact this.symm
              have hyl : y < s.size := by
                have h2 := HLY.out
                have h1 : 0 < T1.length := by rcases hor with h | h <;> exact (Dc.head_drop h).2
                rw [← h2, List.length_drop, HLS.out] at h1
                omega
              have hin : (y : Int) < (s.size : Int) := by omega
              obtain ⟨d, hd⟩ : ∃ d : UInt8, s[y]'hyl = d := ⟨_, rfl⟩
              have hh := drop_head HL.out hyl hd
              rw [HLY.out] at hh
              have HOR := Lib.hid hor
              have HHH := Lib.hid hh
              have hdd : L.drop (y + 1) = T1.drop 1 := by rw [← HLY.out, List.drop_drop]
              have HDD := Lib.hid hdd
              clear hor hh hgg hdd
              by_cases h45 : d = 45
              · have hf2 : ((d.toNat : Int) == 45) = true := by subst h45; rfl
                have H45 := Lib.hid h45
                clear h45
                go_wp2_with fail
                go_meet
                refine ⟨y + 1, -1, by go_num, rfl, by omega, Or.inr rfl, by rw [HHH.out, H45.out, if_pos rfl], rfl, ?_⟩
                rw [if_pos HOR.out, HDD.out]
              · have hf2 : ((d.toNat : Int) == 45) = false := byte_ne (c := 45) (n := 45) rfl h45
                have H45 := Lib.hid h45
                clear h45
                go_wp2_with fail
                go_meet
                refine ⟨y + 1, 1, by go_num, rfl, by omega, Or.inl rfl, by rw [HHH.out, if_neg (by intro h; exact H45.out (Option.some.inj h))], rfl, ?_⟩
                rw [if_pos HOR.out, HDD.out]
          case rest =>
            obtain ⟨y2, σ, rfl, rfl, hy2, hσ, hσ2, hwc, hT⟩ := hcut
            subst hwc
            obtain ⟨w3, hw3⟩ : ∃ W, W = wc := ⟨_, rfl⟩
            subst hw3
            obtain ⟨T, hTT⟩ : ∃ T, (if T1.head? = some 45 ∨ T1.head? = some 43 then T1.drop 1 else T1) = T := ⟨_, rfl⟩
            rw [hTT] at hT
            have htail := Dc.tail_is (K := 1000000) (t := T) HBH.out HBE.out (by rw [HT1.out]; exact hTT)
            rw [HT1.out] at htail
            obtain ⟨r3, hr3⟩ : ∃ r3, Dc.runN T = r3 := ⟨_, rfl⟩
            have hTl : T.length = s.size - y2 := by rw [← hT, List.length_drop, HLS.out]
            have hrl3 : r3 ≤ T.length := by rw [← hr3]; exact Dc.runN_le _
            obtain ⟨z3, hz3⟩ : ∃ z3, y2 + r3 = z3 := ⟨_, rfl⟩
            have DX := fun W => refdigits_any s y2 r3 z3 W (by omega) hy2 (by rw [HL.out, hT]; exact hr3) hz3
            rw [HL.out, hT] at DX
            obtain ⟨D, hD⟩ : ∃ D, Dc.vals (T.take r3) = D := ⟨_, rfl⟩
            rw [hD] at DX
            have hDd : Dc.Digs D := by rw [← hD, ← hr3]; exact Dc.vals_digs Dc.runN_dig
            have hDl : D.length = r3 := by rw [← hD, Dc.vals_len, List.length_take]; omega
            have HDX := Lib.hid DX
            have HTL := Lib.hid htail
            have HTl := Lib.hid hTl
            have HR3 := Lib.hid hr3
            have HZ3 := Lib.hid hz3
            have HD := Lib.hid hD
            have HDD := Lib.hid hDd
            have HDL := Lib.hid hDl
            have HS2 := Lib.hid hσ2
            have hz3s : z3 ≤ s.size := by omega
            have hr3s : r3 ≤ 1048576 := by omega
            have hy20 : (0 : Int) ≤ (y2 : Int) := by omega
            by_cases h0 : r3 = 0
            · have hf : ((z3 : Int) == (y2 : Int)) = true := by simp; omega
              have hP : R = none := by
                rw [HNUM2.out, htail]
                by_cases hTn : T = []
                · rw [if_pos (Or.inl hTn)]; rfl
                · rw [if_pos (Or.inr (by rw [hr3, h0]; have := List.length_pos_iff.2 hTn; omega))]; rfl
              have HP := Lib.hid hP
              clear hP htail hTT hT hr3 hTl hz3 DX hD hDd hDl hσ2 h0
              go_wp2_with fail
              refine (HDX.out _).mono ?_
              rintro x w4 ⟨v4, rfl, _, hb4⟩
              have hb34 : Below w1.heap.size w1 w4 := hb3.trans (hb4.mono hb3.size)
              have hq2 := (hb34.block X hlt1).trans HX1.out
              have x0 := at_block hq2 0 _ rfl
              have x1 := at_block hq2 1 _ rfl
              have x2 := at_block hq2 2 _ rfl
              have f0 := free_block hq2 0
              have f1 := free_block hq2 1
              have f2 := free_block hq2 2
              clear hq2
              go_wp2_with fail
              refine bodyPost_ret (v := .tuple #[.agg #[.bool false, .slice none 0 0, .int .i64 0], .bool false]) (by simp [results, Tryz.results17, go_sem, x0, x1, x2]) rfl ?_
              refine ⟨RNumEnd.bad HP.out rfl, ?_⟩
              try rw [HX.out]
              exact (((hb1.trans (hb34.mono (by omega))).setCell (p := ⟨X, 0, none⟩) (Nat.le_refl _) _).setCell (p := ⟨X, 1, none⟩) (Nat.le_refl _) _).setCell (p := ⟨X, 2, none⟩) (Nat.le_refl _) _
            · have hf : ((z3 : Int) == (y2 : Int)) = false := by simp; omega
              have HNZ := Lib.hid h0
              clear htail hTT hT hr3 hTl hz3 DX hD hDd hDl hσ2 h0
              go_wp2_with fail
              refine (HDX.out _).mono ?_
              rintro x w4 ⟨v4, rfl, hown4, hb4⟩
              obtain ⟨A4, c4, rfl, hc4, hr4⟩ := own_slice hown4
              clear hown4
              go_wp2_with fail
              go_loopg [14, 15] r3 (fun f t i wx => ∃ (j N : Nat), t = .int .i64 (N : Int) ∧ N ≤ 1000000 ∧ min (Dc.num (D.take j)) 1000000 = N ∧ i = .int .i64 (j : Int) ∧ j ≤ r3 ∧ r3 ≤ j + f ∧ wx = w4)
              case atStart => exact ⟨0, 0, rfl, by omega, by simp [Dc.num], rfl, by omega, by omega, rfl⟩
              case round =>
                obtain ⟨j, N, rfl, hN, hNe, rfl, hj, hfj, rfl⟩ := hrel
                have HNN := Lib.hid hNe
                have hj0 : (0 : Int) ≤ (j : Int) := by omega
                clear hNe
                by_cases hjl : j < r3
                · have hin : (j : Int) < (r3 : Int) := by omega
                  obtain ⟨f, rfl⟩ : ∃ f, gk = f + 1 := ⟨gk - 1, by omega⟩
                  obtain ⟨b, off, u, rfl, hbB, hu, hcell⟩ := hr4.at_ (k := j) hjl
                  obtain ⟨x, hx, rfl⟩ := i64_at hu
                  have hx10 : x < 10 := HDD.out x (List.mem_of_getElem? hx)
                  have hnx : Dc.num (D.take (j + 1)) = 10 * Dc.num (D.take j) + x := by
                    rw [List.take_add_one, hx]; exact Dc.num_snoc _ _
                  have HNX := Lib.hid hnx
                  have hws : IntKind.i64.wrap (10 * (N : Int) + (x : Int)) = 10 * (N : Int) + (x : Int) := IntWalk.i64_in _ (by omega)
                  clear hnx hx hu
                  by_cases hbig : (1000000 : Int) < 10 * (N : Int) + (x : Int)
                  · go_wp2
                    go_roundg f
                    case measure => omega
                    case rel =>
                      refine ⟨j + 1, 1000000, by go_num, by omega, ?_, by go_num, by omega, by omega, rfl⟩
                      have h1 := HNX.out
                      have h2 := HNN.out
                      rw [h1]; omega
                  · go_wp2
                    go_roundg f
                    case measure => omega
                    case rel =>
                      refine ⟨j + 1, 10 * N + x, by go_num, by omega, ?_, by go_num, by omega, by omega, rfl⟩
                      have h1 := HNX.out
                      have h2 := HNN.out
                      rw [h1]; omega
                · obtain rfl : j = r3 := by omega
                  have hin : ¬ (j : Int) < (j : Int) := by omega
                  obtain ⟨P, hP⟩ : ∃ P : Int, σ * (N : Int) = P := ⟨_, rfl⟩
                  have hPb : -1000000 ≤ P ∧ P ≤ 1000000 := by rcases hσ with h | h <;> subst h <;> omega
                  have hPv : P = if T1.head? = some 45 then -(N : Int) else (N : Int) := by
                    have h1 := HS2.out
                    by_cases h45 : T1.head? = some 45
                    · rw [if_pos h45] at h1 ⊢; subst h1; omega
                    · rw [if_neg h45] at h1 ⊢; subst h1; omega
                  have hmul : IntKind.i64.wrap (σ * (N : Int)) = P := by rw [hP]; exact IntWalk.i64_in _ (by omega)
                  have HPV := Lib.hid hPv
                  have hfinal : Dc.numTail 1000000 S3 = if z3 = s.size then some (e1 + P - e1) else none := by
                    have h1 := HNZ.out
                    have h2 := HTl.out
                    have h3 := HZ3.out
                    have h4 : T ≠ [] := by intro h; rw [h] at hrl3; simp at hrl3; omega
                    rw [HTL.out, HR3.out]
                    by_cases hzz : z3 = s.size
                    · have h5 : T.take j = T := List.take_of_length_le (by omega)
                      have h6 : Dc.smallN 1000000 T = N := by
                        have h7 := HNN.out
                        rw [List.take_of_length_le (by rw [HDL.out]; exact Nat.le_refl _), ← HD.out, h5] at h7
                        rw [Dc.smallN_num]; exact h7
                      rw [if_neg (by rintro (h | h); exact h4 h; exact h (by omega)), if_pos hzz, h6, hPv, show ∀ (x : Int), e1 + x - e1 = x from fun x => by omega]
                    · rw [if_pos (Or.inr (by omega)), if_neg hzz]
                  have HFIN := Lib.hid hfinal
                  clear hP hPv hfinal
                  go_wp2
                  go_meet
                  exact ⟨z3, e1 + P, rfl, rfl, hz3s, by omega, by omega, hb4, HFIN.out⟩
    case rest =>
      obtain ⟨q2, e2, rfl, rfl, hq2s, hel, heh, hb5, htl⟩ := hcut
      obtain ⟨w5, hw5⟩ : ∃ W, W = wc := ⟨_, rfl⟩
      subst hw5
      have hb15 : Below w1.heap.size w1 w5 := hb3.trans (hb5.mono hb3.size)
      have hR5 := HRC.out.on hb5
      have NO := Lib.hid (fun W hW => refnorm_any neg A n cp C e2 W hW (by omega) (by omega))
      have hRv : R = if q2 = s.size then some (Dc.norm neg C e2) else none := by
        rw [HNUM2.out, htl]
        by_cases h : q2 = s.size
        · rw [if_pos h, if_pos h, Option.map_some, show e1 + (e2 - e1) = e2 by omega]
        · rw [if_neg h, if_neg h]; rfl
      have HRV := Lib.hid hRv
      have HR5 := Lib.hid hR5
      clear htl hRv hR5
      go_upto_region 34 with fail
      by_cases hqq : q2 = s.size
      · have hf : ((q2 : Int) == (s.size : Int)) = true := by simp; omega
        have HQQ := Lib.hid hqq
        clear hqq
        go_wp2_with fail
        refine (NO.out _ HR5.out).mono ?_
        rintro x w6 ⟨v6, rfl, ⟨A6, c6, rfl, hr6⟩, hb6⟩
        have hb16 : Below w1.heap.size w1 w6 := hb15.trans (hb6.mono hb15.size)
        have hr6 := own_base (base' := w1.heap.size) hr6 hb15.size
        obtain ⟨Z, hZ⟩ : ∃ Z, Dc.norm neg C e2 = Z := ⟨_, rfl⟩
        rw [hZ] at hr6
        rw [hZ]
        obtain ⟨gz, lz, ez, nz, hgz, hlz, hez, hlnz, hzz⟩ := num_letters Z
        rw [hgz, hlz, hez, hlnz]
        rw [hlz, hlnz] at hr6
        have hq2 := (hb16.block X hlt1).trans HX1.out
        have x0 := at_block hq2 0 _ rfl
        have x1 := at_block hq2 1 _ rfl
        have x2 := at_block hq2 2 _ rfl
        have f0 := free_block hq2 0
        have f1 := free_block hq2 1
        have f2 := free_block hq2 2
        have HZZ := Lib.hid hzz
        have HZn := Lib.hid hZ
        have HR6 := Lib.hid hr6
        have HLZ := Lib.hid hlnz
        clear hq2 hZ hgz hlz hez hlnz hzz hr6
        go_wp2_with fail
        refine bodyPost_ret (v := .tuple #[.agg #[.bool gz, .slice A6 nz c6, .int .i64 ez], .bool true]) (by simp [results, Tryz.results17, go_sem, x0, x1, x2]) rfl ?_
        have hbE := (((hb1.trans (hb16.mono (by omega))).setCell (p := ⟨X, 0, none⟩) (Nat.le_refl _) (.bool gz)).setCell (p := ⟨X, 1, none⟩) (Nat.le_refl _) (.slice A6 nz c6)).setCell (p := ⟨X, 2, none⟩) (Nat.le_refl _) (.int .i64 ez)
        have hRe : R = some ⟨gz, lz, ez⟩ := by rw [HRV.out, if_pos HQQ.out, HZn.out, HZZ.out]
        have ho := ownsRow_setCell_below (ownsRow_setCell_below (ownsRow_setCell_below HR6.out (a := ⟨X, 0, none⟩) hlt1 (.bool gz)) (a := ⟨X, 1, none⟩) hlt1 (.slice A6 nz c6)) (a := ⟨X, 2, none⟩) hlt1 (.int .i64 ez)
        refine ⟨⟨gz, A6, nz, c6, ez, by rw [hRe]; rfl, fun yy hyy => ?_⟩, by rw [HX.out]; exact hbE⟩
        rw [hRe] at hyy
        obtain rfl := Option.some.inj hyy
        exact ⟨rfl, HLZ.out.symm, rfl, own_base ho hb1.size⟩
      · have hf : ((q2 : Int) == (s.size : Int)) = false := by simp; omega
        have HQQ := Lib.hid hqq
        clear hqq
        go_wp2_with fail
        refine (NO.out _ HR5.out).mono ?_
        rintro x w6 ⟨v6, rfl, ⟨A6, c6, rfl, _⟩, hb6⟩
        have hb16 : Below w1.heap.size w1 w6 := hb15.trans (hb6.mono hb15.size)
        obtain ⟨Z, hZ⟩ : ∃ Z, Dc.norm neg C e2 = Z := ⟨_, rfl⟩
        rw [hZ]
        obtain ⟨gz, lz, ez, nz, hgz, hlz, hez, hlnz, hzz⟩ := num_letters Z
        rw [hgz, hlz, hez, hlnz]
        have hq2 := (hb16.block X hlt1).trans HX1.out
        have x0 := at_block hq2 0 _ rfl
        have x1 := at_block hq2 1 _ rfl
        have x2 := at_block hq2 2 _ rfl
        have f0 := free_block hq2 0
        have f1 := free_block hq2 1
        have f2 := free_block hq2 2
        clear hq2 hZ hgz hlz hez hlnz hzz
        go_wp2_with fail
        refine bodyPost_ret (v := .tuple #[.agg #[.bool gz, .slice A6 nz c6, .int .i64 ez], .bool false]) (by simp [results, Tryz.results17, go_sem, x0, x1, x2]) rfl ?_
        have hbE := (((hb1.trans (hb16.mono (by omega))).setCell (p := ⟨X, 0, none⟩) (Nat.le_refl _) (.bool gz)).setCell (p := ⟨X, 1, none⟩) (Nat.le_refl _) (.slice A6 nz c6)).setCell (p := ⟨X, 2, none⟩) (Nat.le_refl _) (.int .i64 ez)
        have hRe : R = none := by rw [HRV.out, if_neg HQQ.out]
        exact ⟨⟨gz, A6, nz, c6, ez, by rw [hRe]; rfl, fun yy hyy => by rw [hRe] at hyy; cases hyy⟩, by rw [HX.out]; exact hbE⟩

end Go.Proofs.YtmgafnflkfbckaaGreatDoor
