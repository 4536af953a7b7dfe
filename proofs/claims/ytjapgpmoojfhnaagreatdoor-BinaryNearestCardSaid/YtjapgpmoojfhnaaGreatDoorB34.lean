/- set of the library's decimal: behind its digits. -/
import Derived.Test.YtjapgpmoojfhnaaGreatDoorB24
import Derived.Test.YtjapgpmoojfhnaaGreatDoorB28
import Derived.WalkMore
set_option maxHeartbeats 16000000
set_option maxRecDepth 100000
set_option linter.unusedSimpArgs false
set_option linter.unusedVariables false
namespace Go.Proofs.YtjapgpmoojfhnaaGreatDoor
open Go.RowKit Go.Lib
def hdR : Code → Nat
 | .seq a _ => hdR a
 | .region k _ _ => k
 | _ => 100000
def fromR (n : Nat) : Code → Code
 | .seq a b => if hdR a == n then .seq a b else fromR n b
 | c => c
noncomputable def suf195 : Code := fromR 29 (Tryz.f195.body.getD .skip)
def SetEnd (X : Nat) (D : List Nat) (n : Nat) (E : Int) (g : Bool) (w : World) (x : Ending) (w' : World) : Prop := x = .returned (.bool true) ∧ DcAt w' X D n (n + E) g false ∧ Below X w w'
theorem setPre {s : ByteArray} {g : Bool} {l : List Nat} {E : Int} {a b : Nat} {el : List Nat} (h : Fl.DecTxt s g l E) (P : Fl.DecPos s g l E a b el) :
 ∃ p p1, ExitF s l.length p p1 1 ∧ l.length ≤ 400 ∧ s.size ≤ 1000 ∧ b ≤ 1000 ∧ Fl.num el ≤ 2000 ∧
   (∀ j bb, j < el.length → b + j = bb → ∃ y d, el[j]? = some y ∧ y < 10 ∧ DigAt s j bb y d ∧ d.toNat = 48 + y) ∧
   (∀ j bb, el.length = j → b + j = bb → decide ((bb : Int) < (s.size : Int)) = false ∧ decide (bb < s.size) = false) ∧
   (∀ j bb, el.length = j → b + j = bb → ((bb : Int) == (s.size : Int)) = true) ∧
   (∀ j, el.length = j → Fl.num (el.take j) = E.natAbs) ∧ 0 < el.length ∧ a + l.length = p ∧ p + 1 = p1 ∧ s.data.toList[p]? = some 101 ∧
   (E < 0 → p1 + 1 = b ∧ s.data.toList[p1]? = some 45) ∧ (0 ≤ E → p1 = b) ∧ -2000 ≤ E ∧ E ≤ 2000 := by
 have hlen := h.len
 have hel5 := Fl.few_digits h P
 have hn0 : 0 < l.length := List.length_pos_iff.2 h.ne
 have hsz := P.size
 have hb := P.hb
 have ha := P.ha
 have hm0 : 0 < el.length := List.length_pos_iff.2 P.ene
 have ha2 : a ≤ 1 := by rw [ha]; split <;> omega
 have hs1 : s.size ≤ 1000 := by rw [hsz, hb]; split <;> omega
 have hs0 : a + l.length + 1 < s.size := by rw [hsz, hb]; split <;> omega
 obtain ⟨p1, XS⟩ := exitF (s := s) (n := l.length) (p := a + l.length) (M := 1) hs1 hn0 hs0 (by decide)
 have hp1 := XS.e1
 refine ⟨_, p1, XS, hlen, hs1, by omega, by rw [P.enum]; have := h.lo; have := h.hi; omega, fun j bb hj hp => ?_, fun j bb h1 h2 => ⟨decide_eq_false (by omega), decide_eq_false (by omega)⟩, fun j bb h1 h2 => by rw [beq_iff_eq]; omega,
  fun j h1 => by rw [← h1, List.take_length, P.enum], hm0, rfl, hp1, P.e, fun hE => ⟨by rw [hb, if_pos hE]; omega, by rw [← hp1]; exact P.esign hE⟩, fun hE => by rw [hb, if_neg (by omega)]; omega, h.lo, h.hi⟩
 have hy : el[j]? = some (el[j]'hj) := List.getElem?_eq_getElem _
 have hy9 := P.edigs _ (List.mem_of_getElem? hy)
 obtain ⟨d, G⟩ := digAt (s := s) (p := b + j) j hs1 (by omega) hy9 (P.edig j _ hy)
 have hv := digAt_val G hy9 (P.edig j _ hy)
 subst hp
 exact ⟨_, d, hy, hy9, G, hv⟩
theorem mul_neg1 (A n : Nat) (h : A ≤ 2000) (hn : n ≤ 1000) : IntKind.i64.wrap (-(A : Int)) = -(A : Int) ∧ IntKind.i64.wrap ((A : Int) * -1) = -(A : Int) ∧ IntKind.i64.wrap ((n : Int) + -(A : Int)) = (n : Int) + -(A : Int) ∧ IntKind.i64.wrap ((A : Int)) = (A : Int) ∧ IntKind.i64.wrap ((n : Int) + (A : Int)) = (n : Int) + (A : Int) := by
 refine ⟨?_, ?_, ?_, ?_, ?_⟩ <;> (rw [IntKind.wrap_i64]; omega)
theorem set_tail (X : Nat) (D : List Nat) (s : ByteArray) (ng g : Bool) (l : List Nat) (E : Int) (a b : Nat) (el : List Nat) (h : Fl.DecTxt s g l E) (P : Fl.DecPos s g l E a b el) (w w0 : World) (u2 u3 u8 u9 u10 u11 u12 u13 u14 u15 u16 u17 u18 u19 u20 u21 u22 u23 u24 u25 u26 u27 u28 u29 u30 u31 u32 u33 u34 u35 u36 u37 u38 u39 u40 u41 u42 u43 u44 u45 u46 u47 u48 u49 u50 u51 u52 u53 u54 u55 u56 u57 u58 u59 u60 u61 u62 u63 u64 u65 u66 u67 u68 u69 u70 u71 u72 u73 u74 u75 u76 u77 u78 u79 u80 u81 u82 u83 u84 u85 u86 u87 u88 u89 u90 u91 u92 u93 u94 u95 u96 u97 u98 u99 u100 u101 u102 u103 u104 u105 u106 u107 u108 u109 u110 u111 u112 u113 u114 u115 u116 u117 u118 u119 u120 u121 u122 u123 u124 u125 u126 u127 u128 u129 u130 u131 u132 u133 u134 u135 u136 u137 u138 u139 u140 u141 u142 u143 u144 u145 u146 u147 u148 u149 u150 u151 u152 u153 u154 u155 u156 u157 u158 u159 u160 u161 u162 u163 u164 u165 u166 u167 u168 u169 u170 u171 u172 u173 u174 u175 u176 u177 u178 u179 u180 u181 u182 u183 u184 u185 u186 u187 u188 u189 u190 u191 u192 u193 u194 u195 u196 u197 u198 u199 u200 u201 u202 u203 u204 u205 u206 u207 u208 u209 u210 u211 u212 u213 u214 u215 u216 u217 u218 u219 u220 u221 u222 u223 : Value) {K : Act → World → Prop}
 (hK : ∀ a' w', Code.wp Tryz.prog suf195 (bodyPost Tryz.prog Tryz.f195 (SetEnd X D l.length E ng w)) a' w' → K a' w') (hX : DcAt w0 X D l.length 0 ng false) (hbw : Below X w w0) :
 K ⟨#[.pointer (some ⟨X, 0, none⟩), .string s, u2, u3, .bool false, .int .i64 ((a + l.length : Nat) : Int), .bool false, .bool true, u8, u9, u10, u11, u12, u13, u14, u15, u16, u17, u18, u19, u20, u21, u22, u23, u24, u25, u26, u27, u28, u29, u30, u31, u32, u33, u34, u35, u36, u37, u38, u39, u40, u41, u42, u43, u44, u45, u46, u47, u48, u49, u50, u51, u52, u53, u54, u55, u56, u57, u58, u59, u60, u61, u62, u63, u64, u65, u66, u67, u68, u69, u70, u71, u72, u73, u74, u75, u76, u77, u78, u79, u80, u81, u82, u83, u84, u85, u86, u87, u88, u89, u90, u91, u92, u93, u94, u95, u96, u97, u98, u99, u100, u101, u102, u103, u104, u105, u106, u107, u108, u109, u110, u111, u112, u113, u114, u115, u116, u117, u118, u119, u120, u121, u122, u123, u124, u125, u126, u127, u128, u129, u130, u131, u132, u133, u134, u135, u136, u137, u138, u139, u140, u141, u142, u143, u144, u145, u146, u147, u148, u149, u150, u151, u152, u153, u154, u155, u156, u157, u158, u159, u160, u161, u162, u163, u164, u165, u166, u167, u168, u169, u170, u171, u172, u173, u174, u175, u176, u177, u178, u179, u180, u181, u182, u183, u184, u185, u186, u187, u188, u189, u190, u191, u192, u193, u194, u195, u196, u197, u198, u199, u200, u201, u202, u203, u204, u205, u206, u207, u208, u209, u210, u211, u212, u213, u214, u215, u216, u217, u218, u219, u220, u221, u222, u223], []⟩ w0 := by
 refine hK _ _ ?_
 conv => arg 4; zeta
 conv => arg 2; whnf
 have PRE := setPre h P
 obtain ⟨n, hn⟩ : ∃ n, l.length = n := ⟨_, rfl⟩
 rw [hn] at PRE hX ⊢
 obtain ⟨p, p1, XS, hlen, hs1, hbl, hNE, hDE, hEND, hBE, hALL, hm0, hpp, hp1, hpe, hneg, hposi, hE2, hE3⟩ := PRE
 rw [hpp]
 have k1 := XS.n0
 have k2 := XS.pi
 have k3 := XS.pd
 have k3' := XS.pd'
 have k4 := XS.p1w
 have k4' := XS.p1w'
 have k5 := XS.p1d
 have k5' := XS.p1d'
 have k7 := XS.p1i
 obtain ⟨helt, hel1⟩ := byte_of hpe
 have HNE := Lib.hid hNE
 have DE := Lib.hid hDE
 have HEND := Lib.hid hEND
 have HBE := Lib.hid hBE
 have HALL := Lib.hid hALL
 clear hNE hDE hEND hBE hALL XS hpe h P hpp hK
 have x0 := hX.c0
 have x1 := hX.c1
 have z1 := hX.free 801
 have HX := Lib.hid (And.intro hX hbw)
 obtain ⟨m, hm⟩ : ∃ m, el.length = m := ⟨_, rfl⟩
 have HM := Lib.hid hm
 have HM0 := Lib.hid hm0
 rcases Int.lt_or_le E 0 with hE | hE
 · obtain ⟨A, rfl⟩ : ∃ A : Nat, E = -(A : Int) := ⟨E.natAbs, by omega⟩
   obtain ⟨hbp, h45⟩ := hneg hE
   obtain ⟨h45elt, h45e⟩ := byte_of h45
   have x1w : IntKind.i64.wrap ((p1 : Int) + 1) = (b : Int) := by rw [IntKind.wrap_i64]; omega
   have x1w' : wrap64 ((p1 : Int) + 1) = (b : Int) := by unfold wrap64; omega
   obtain ⟨m1, m2, m3, m4, m5⟩ := mul_neg1 A n (by omega) (by omega)
   obtain ⟨y0, d1, hy0, _, G1, _⟩ := DE.out 0 b (by rw [HM.out]; have := HM0.out; omega) rfl
   have B1 := digB_of G1
   have b3 := B1.lo
   have b3' := B1.lo'
   have b4 := B1.hi
   have b4' := B1.hi'
   have hlt1 := G1.lt
   have hby1 : s[b]'hlt1 = d1 := G1.byte
   have hpi1 := G1.pi
   have P1 := placeF hlt1
   have b5 := P1.d1
   have b5' := P1.d2
   clear hbw hX hlen hm0 hs1 hE2 hE3 hE hm hbl hp1 hbp hy0 hn hneg hposi h45
   go_wp2_with fail
   have hA : DcAt (w0.setCell ⟨X, 801, none⟩ (.int .i64 (n : Int))) X D n n ng false ∧ Below X w (w0.setCell ⟨X, 801, none⟩ (.int .i64 (n : Int))) := ⟨HX.out.1.set1 _, HX.out.2.setCell (show X ≤ (⟨X, 801, none⟩ : Addr).block from Nat.le_refl X) _⟩
   generalize w0.setCell ⟨X, 801, none⟩ (.int .i64 (n : Int)) = w1 at hA ⊢
   clear x0 x1 z1
   have x1 := hA.1.c1
   have z1 := hA.1.free 801
   have HA := Lib.hid hA
   clear hA
   refine (lower_e _).mono ?_
   rintro y w2 ⟨rfl, hw2⟩
   obtain rfl : w1 = w2 := hw2.symm
   go_wp2_with fail
   go_loopg [5, 9] m (fun f t5 t9 wx => ∃ j bb : Nat, j + f = m ∧ b + j = bb ∧ t5 = .int .i64 (bb : Int) ∧ t9 = .int .i64 (Fl.num (el.take j) : Nat) ∧ wx = w1)
   case atStart => exact ⟨0, b, Nat.zero_add _, Nat.add_zero _, rfl, rfl, rfl⟩
   case round =>
    obtain ⟨j, bb, hj, hbb, e5, e9, ew⟩ := hrel
    rcases Nat.lt_or_ge j m with hjm | hjm
    · obtain ⟨y, d, hy, hy9, G, hdv⟩ := DE.out j bb (by rw [HM.out]; exact hjm) hbb
      obtain ⟨g0, rfl⟩ : ∃ g0, gk = g0 + 1 := ⟨gk - 1, by omega⟩
      obtain ⟨e0, E10, S, e1, F⟩ := stepE hy hy9 HNE.out hdv
      have HBB := Lib.hid hbb
      have HJ1 := Lib.hid (show j + 1 + g0 = m by omega)
      rw [F.m0] at e9
      have r1 := G.r1
      have r3 := G.r3
      have r3' := G.r3'
      have r4 := G.r4
      have r4' := G.r4'
      have r6 := G.r6
      have r6' := G.r6'
      have r7 := G.r7
      have r7' := G.r7'
      have hpi := G.pi
      have hlt := G.lt
      have hby : s[bb]'hlt = d := G.byte
      have f0 := F.f0
      have f0' := F.f0'
      have f1 := F.f1
      have f1' := F.f1'
      have f2 := F.f2
      have f2' := F.f2'
      have f3 := F.f3
      have f3' := F.f3'
      have f4 := F.f4
      have f4' := F.f4'
      clear hj hbb hjm hy hy9 hdv
      subst e5 e9 ew
      go_wp2_with fail
      go_roundg g0
      case measure => exact Nat.lt_succ_self _
      case rel => exact ⟨j + 1, bb + 1, HJ1.out, by rw [← HBB.out]; rfl, rfl, by rw [F.m1], rfl⟩
    · obtain rfl : j = m := by omega
      have hend := HEND.out j bb HM.out hbb
      have hd1 := hend.1
      have hd2 := hend.2
      have hd3 := HBE.out j bb HM.out hbb
      rw [HALL.out j HM.out, Int.natAbs_neg, Int.natAbs_natCast] at e9
      clear hj hbb hjm hend
      subst e5 e9 ew
      go_wp2_with fail
      refine bodyPost_ret (v := .bool true) (by simp [results, Tryz.results195, go_sem]) rfl ?_
      exact ⟨rfl, HA.out.1.set1 _, HA.out.2.setCell (show X ≤ (⟨X, 801, none⟩ : Addr).block from Nat.le_refl X) _⟩
 · obtain ⟨A, rfl⟩ : ∃ A : Nat, E = A := ⟨E.natAbs, by omega⟩
   have hbp : p1 = b := hposi hE
   subst hbp
   obtain ⟨m1, m2, m3, m4, m5⟩ := mul_neg1 A n (by omega) (by omega)
   obtain ⟨y0, d1, hy0, _, G1, _⟩ := DE.out 0 p1 (by rw [HM.out]; have := HM0.out; omega) rfl
   have B1 := digB_of G1
   have b3 := B1.lo
   have b3' := B1.lo'
   have b4 := B1.hi
   have b4' := B1.hi'
   have hlt1 := G1.lt
   have hby1 : s[p1]'hlt1 = d1 := G1.byte
   have hpi1 := G1.pi
   have P1 := placeF hlt1
   have b5 := P1.d1
   have b5' := P1.d2
   have b1 := B1.b43
   have b2 := B1.b45
   clear hbw hX hlen hm0 hs1 hE2 hE3 hE hm hbl hp1 hy0 hn hneg hposi
   go_wp2_with fail
   have hA : DcAt (w0.setCell ⟨X, 801, none⟩ (.int .i64 (n : Int))) X D n n ng false ∧ Below X w (w0.setCell ⟨X, 801, none⟩ (.int .i64 (n : Int))) := ⟨HX.out.1.set1 _, HX.out.2.setCell (show X ≤ (⟨X, 801, none⟩ : Addr).block from Nat.le_refl X) _⟩
   generalize w0.setCell ⟨X, 801, none⟩ (.int .i64 (n : Int)) = w1 at hA ⊢
   clear x0 x1 z1
   have x1 := hA.1.c1
   have z1 := hA.1.free 801
   have HA := Lib.hid hA
   clear hA
   refine (lower_e _).mono ?_
   rintro y w2 ⟨rfl, hw2⟩
   obtain rfl : w1 = w2 := hw2.symm
   go_wp2_with fail
   go_loopg [5, 9] m (fun f t5 t9 wx => ∃ j bb : Nat, j + f = m ∧ p1 + j = bb ∧ t5 = .int .i64 (bb : Int) ∧ t9 = .int .i64 (Fl.num (el.take j) : Nat) ∧ wx = w1)
   case atStart => exact ⟨0, p1, Nat.zero_add _, Nat.add_zero _, rfl, rfl, rfl⟩
   case round =>
    obtain ⟨j, bb, hj, hbb, e5, e9, ew⟩ := hrel
    rcases Nat.lt_or_ge j m with hjm | hjm
    · obtain ⟨y, d, hy, hy9, G, hdv⟩ := DE.out j bb (by rw [HM.out]; exact hjm) hbb
      obtain ⟨g0, rfl⟩ : ∃ g0, gk = g0 + 1 := ⟨gk - 1, by omega⟩
      obtain ⟨e0, E10, S, e1, F⟩ := stepE hy hy9 HNE.out hdv
      have HBB := Lib.hid hbb
      have HJ1 := Lib.hid (show j + 1 + g0 = m by omega)
      rw [F.m0] at e9
      have r1 := G.r1
      have r3 := G.r3
      have r3' := G.r3'
      have r4 := G.r4
      have r4' := G.r4'
      have r6 := G.r6
      have r6' := G.r6'
      have r7 := G.r7
      have r7' := G.r7'
      have hpi := G.pi
      have hlt := G.lt
      have hby : s[bb]'hlt = d := G.byte
      have f0 := F.f0
      have f0' := F.f0'
      have f1 := F.f1
      have f1' := F.f1'
      have f2 := F.f2
      have f2' := F.f2'
      have f3 := F.f3
      have f3' := F.f3'
      have f4 := F.f4
      have f4' := F.f4'
      clear hj hbb hjm hy hy9 hdv
      subst e5 e9 ew
      go_wp2_with fail
      go_roundg g0
      case measure => exact Nat.lt_succ_self _
      case rel => exact ⟨j + 1, bb + 1, HJ1.out, by rw [← HBB.out]; rfl, rfl, by rw [F.m1], rfl⟩
    · obtain rfl : j = m := by omega
      have hend := HEND.out j bb HM.out hbb
      have hd1 := hend.1
      have hd2 := hend.2
      have hd3 := HBE.out j bb HM.out hbb
      rw [HALL.out j HM.out, Int.natAbs_natCast] at e9
      clear hj hbb hjm hend
      subst e5 e9 ew
      go_wp2_with fail
      refine bodyPost_ret (v := .bool true) (by simp [results, Tryz.results195, go_sem]) rfl ?_
      exact ⟨rfl, HA.out.1.set1 _, HA.out.2.setCell (show X ≤ (⟨X, 801, none⟩ : Addr).block from Nat.le_refl X) _⟩
end Go.Proofs.YtjapgpmoojfhnaaGreatDoor
