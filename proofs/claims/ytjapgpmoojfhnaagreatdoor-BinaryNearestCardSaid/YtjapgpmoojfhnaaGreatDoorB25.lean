/- readFloat at the text of a decimal that is not nought. The library's exact road: atof64exact. The library's exact road at a power of ten that is not nought. -/
import Derived.Test.YtjapgpmoojfhnaaGreatDoorB08
import Derived.Test.YtjapgpmoojfhnaaGreatDoorB24
import Derived.WalkMore
import Derived.Deep.LoopGhost
set_option maxHeartbeats 16000000
set_option maxRecDepth 100000
set_option linter.unusedSimpArgs false
set_option linter.unusedVariables false
namespace Go.Proofs.YtjapgpmoojfhnaaGreatDoor
open Go.RowKit Go.Lib
theorem kzero (k : Nat) (h : k ≠ 0) : ((k : Int) == 0) = false := by rw [beq_eq_false_iff_ne]; omega
theorem readfloat_any (s : ByteArray) (g : Bool) (l : List Nat) (E : Int) (h : Fl.DecTxt s g l E) (w : World) :
 Calls Tryz.prog 189 #[.string s] w fun x w' => x = .returned (.tuple #[.int .u64 (Fl.mantN l l.length : Nat), .int .i64 (l.length + E - (min l.length 19 : Nat)), .bool g, .bool (Fl.truncN l l.length), .bool false, .int .i64 s.size, .bool true]) ∧ w' = w := by
 obtain ⟨a, b, el, P⟩ := h.pos
 obtain ⟨n, hn⟩ : ∃ n, l.length = n := ⟨_, rfl⟩
 have hlen := h.len
 have hel5 := Fl.few_digits h P
 have hn0 : 0 < n := by rw [← hn]; exact List.length_pos_iff.2 h.ne
 rw [hn] at hlen ⊢
 have hsz := P.size
 have hb := P.hb
 have ha := P.ha
 rw [hn] at hb
 have hm0 : 0 < el.length := List.length_pos_iff.2 P.ene
 have ha2 : a ≤ 1 := by rw [ha]; split <;> omega
 have hs1 : s.size ≤ 1000 := by rw [hsz, hb]; split <;> omega
 have hs0 : a + n + 1 < s.size := by rw [hsz, hb]; split <;> omega
 have i0 : ((0 : Int) < s.size) := by omega
 have c0 : decide ((s.size : Int) ≤ 0) = false := decide_eq_false (by omega)
 have c0' : decide (s.size ≤ 0) = false := decide_eq_false (by omega)
 have hsn : s.size ≠ 0 := by omega
 have hse : s ≠ ByteArray.empty := fun he => by rw [he] at hsn; exact hsn rfl
 have c1 : decide (((a + 2 : Nat) : Int) < (s.size : Int)) = true := decide_eq_true (by rw [hsz, hb]; split <;> omega)
 have c1' : decide (a + 2 < s.size) = true := decide_eq_true (by rw [hsz, hb]; split <;> omega)
 have XZ := Lib.hid (show ∀ k x, l[k]? = some x → x = 0 → k ≠ 0 from fun k x hx h0 hk0 => by
  subst hk0
  exact h.head x (by rw [List.head?_eq_getElem?]; exact hx) h0)
 have DG := Lib.hid (show ∀ k p, k < n → a + k = p → ∃ x d, l[k]? = some x ∧ DigAt s k p x d from fun k p hk hp => by
  have hx : l[k]? = some (l[k]'(by omega)) := List.getElem?_eq_getElem _
  obtain ⟨d, G⟩ := digAt (s := s) (p := a + k) k hs1 (by omega) (h.digs _ (List.mem_of_getElem? hx)) (P.coef k _ hx)
  subst hp
  exact ⟨_, d, hx, G⟩)
 obtain ⟨x0, d0, hx0, G0⟩ := DG.out 0 a (by omega) rfl
 have x00 : x0 ≠ 0 := fun h0 => XZ.out 0 x0 hx0 h0 rfl
 have q48 : ((d0.toNat : Int) == 48) = false := G0.zero.elim (fun z => absurd z.1 x00) (·.2)
 have g3 := G0.r3
 have q43 : ((d0.toNat : Int) == 43) = false := by
  have := of_decide_eq_true g3
  rw [beq_eq_false_iff_ne]; omega
 have q45 : ((d0.toNat : Int) == 45) = false := by
  have := of_decide_eq_true g3
  rw [beq_eq_false_iff_ne]; omega
 have hka := G0.lt
 have hda : s[a]'hka = d0 := G0.byte
 have ia := G0.pi
 have HP := Lib.hid P
 have HH := Lib.hid h
 have hdig := Lib.hid h.digs
 have HSZ := Lib.hid hsz
 have HB := Lib.hid hb
 have HS0 := Lib.hid hs0
 have HS1 := Lib.hid hs1
 have HLN := Lib.hid hlen
 have HN := Lib.hid hn
 have HN0 := Lib.hid hn0
 have XX := Lib.hid (show ∀ p M, a + n = p → Fl.mantN l n = M → ∃ p1, ExitF s n p p1 M from fun p M hp hM => exitF hs1 hn0 (by omega) (by
  rw [← hM]
  have := Fl.mantN_pos h (k := n) hn0 (by omega)
  exact this))
 have EE := Lib.hid (show ∀ q, q ≤ 19 → EndF n q E E E (n + E - (q : Int)) from fun q hq => endF (by omega) (by omega) h.lo h.hi)
 have HNE := Lib.hid (show Fl.num el ≤ 2000 by rw [P.enum]; have := h.lo; have := h.hi; omega)
 have DE := Lib.hid (show ∀ j bb, j < el.length → b + j = bb → ∃ y d, el[j]? = some y ∧ y < 10 ∧ DigAt s j bb y d ∧ d.toNat = 48 + y from fun j bb hj hp => by
  have hy : el[j]? = some (el[j]'hj) := List.getElem?_eq_getElem _
  have hy9 := P.edigs _ (List.mem_of_getElem? hy)
  obtain ⟨d, G⟩ := digAt (s := s) (p := b + j) j hs1 (by omega) hy9 (P.edig j _ hy)
  have hv := digAt_val G hy9 (P.edig j _ hy)
  subst hp
  exact ⟨_, d, hy, hy9, G, hv⟩)
 have HEND := Lib.hid (show ∀ j bb, el.length = j → b + j = bb → decide ((bb : Int) < (s.size : Int)) = false ∧ decide (bb < s.size) = false from fun j bb h1 h2 => ⟨decide_eq_false (by omega), decide_eq_false (by omega)⟩)
 have HBE := Lib.hid (show ∀ j bb, el.length = j → b + j = bb → s.size = bb from fun j bb h1 h2 => by omega)
 have HALL := Lib.hid (show ∀ j, el.length = j → Fl.num (el.take j) = E.natAbs from fun j h1 => by rw [← h1, List.take_length, P.enum])
 have BP := Lib.hid (show ∀ p p1, a + n = p → p + 1 = p1 → (0 ≤ E → b = p1) ∧ (E < 0 → p1 + 1 = b) from fun p p1 h1 h2 => ⟨fun hE => by rw [hb, if_neg (by omega)]; omega, fun hE => by rw [hb, if_pos hE]; omega⟩)
 have XY := Lib.hid (show ∀ p1 b' : Nat, p1 + 1 = b' → b' ≤ 1000 → IntKind.i64.wrap ((p1 : Int) + 1) = (b' : Int) ∧ wrap64 ((p1 : Int) + 1) = (b' : Int) from fun p1 b' h1 h2 => ⟨by rw [IntKind.wrap_i64]; omega, by unfold wrap64; omega⟩)
 have HBL := Lib.hid (show b ≤ 1000 by omega)
 have HM0 := Lib.hid hm0
 clear hsz hb hs0 hs1 hlen hn hn0 hm0 hel5 hx0 x00 hsn g3 G0
 cases g with
 | false =>
   obtain rfl : a = 0 := by rw [ha]; rfl
   have c1b : decide ((2 : Int) < (s.size : Int)) = true := by simpa using c1
   have c1b' : decide (2 < s.size) = true := by simpa using c1'
   clear P h ha ha2 c1 c1'
   go_enter Tryz.func189, Tryz.ntmps189
   go_wp2_with fail
   go_step3
   go_wp2_with fail
   go_step3
   go_wp2_with fail
   go_loopg [2, 5, 7, 9, 13, 14, 15, 16, 17, 18] n (fun f t2 t5 t7 t9 t13 t14 t15 t16 t17 _ wx => ∃ k : Nat, k + f = n ∧ t2 = .int .u64 (Fl.mantN l k : Nat) ∧ t5 = .bool (Fl.truncN l k) ∧ t7 = .int .i64 ((0 + k : Nat) : Int) ∧ t9 = .bool false ∧ t13 = .bool false ∧ t14 = .bool (decide (0 < k)) ∧ t15 = .int .i64 (k : Int) ∧ t16 = .int .i64 (min k 19 : Nat) ∧ t17 = .int .i64 0 ∧ wx = w)
   case atStart => exact ⟨0, Nat.zero_add _, rfl, rfl, rfl, rfl, rfl, rfl, rfl, rfl, rfl, rfl⟩
   case round =>
    obtain ⟨k, hk, e2, e5, e7, e9, e13, e14, e15, e16, e17, ew⟩ := hrel
    obtain ⟨p, hpp⟩ : ∃ p, 0 + k = p := ⟨_, rfl⟩
    rw [hpp] at e7
    rcases Nat.lt_or_ge k n with hkn | hkn
    · obtain ⟨x, d, hx, G⟩ := DG.out k p hkn hpp
      obtain ⟨g0, rfl⟩ : ∃ g0, gk = g0 + 1 := ⟨gk - 1, by omega⟩
      have HPP := Lib.hid hpp
      have HK1 := Lib.hid (show k + 1 + g0 = n by omega)
      have kz := kzero k
      have x0 := XZ.out k x hx
      clear hpp hk hkn
      by_cases k19 : k < 19
      · obtain ⟨q, M, M10, M1, T, F⟩ := stepLo hdig.out hx k19
        rw [F.m0] at e2
        rw [F.t0] at e5
        rw [F.q0] at e16
        have s1 := F.s1
        have s1' := F.s1'
        have s2 := F.s2
        have s5 := F.s5
        have s6 := F.s6
        have s6' := F.s6'
        have r1 := G.r1
        have r2 := G.r2
        have r3 := G.r3
        have r3' := G.r3'
        have r4 := G.r4
        have r4' := G.r4'
        have r5 := G.r5
        have r5' := G.r5'
        have r6 := G.r6
        have r6' := G.r6'
        have r7 := G.r7
        have r7' := G.r7'
        have s3 := G.s3
        have s4 := G.s4
        have hpi := G.pi
        have hlt := G.lt
        have hby : s[p]'hlt = d := G.byte
        rcases G.zero with ⟨z0, z⟩ | ⟨z0, z⟩
        · have kz := kz (x0 z0)
          clear x0 z0 k19 hx
          subst e2 e5 e7 e9 e13 e14 e15 e16 e17 ew
          go_wp2_with fail
          go_roundg g0
          case measure => exact Nat.lt_succ_self _
          case rel => exact ⟨k + 1, HK1.out, by rw [F.m1], by rw [F.t1], by rw [← HPP.out]; rfl, rfl, rfl, by simp, rfl, by rw [F.q1]; first | done | (push_cast; rfl), rfl, rfl⟩
        · clear x0 z0 kz k19 hx
          subst e2 e5 e7 e9 e13 e14 e15 e16 e17 ew
          go_wp2_with fail
          go_roundg g0
          case measure => exact Nat.lt_succ_self _
          case rel => exact ⟨k + 1, HK1.out, by rw [F.m1], by rw [F.t1], by rw [← HPP.out]; rfl, rfl, rfl, by simp, rfl, by rw [F.q1]; first | done | (push_cast; rfl), rfl, rfl⟩
      · obtain ⟨q, M, T, F⟩ := stepHi hx k19
        rw [F.m0] at e2
        rw [F.t0] at e5
        rw [F.q0] at e16
        have s1 := F.s1
        have s1' := F.s1'
        have r1 := G.r1
        have r2 := G.r2
        have r3 := G.r3
        have r3' := G.r3'
        have r4 := G.r4
        have r4' := G.r4'
        have r5 := G.r5
        have r5' := G.r5'
        have r6 := G.r6
        have r6' := G.r6'
        have r7 := G.r7
        have r7' := G.r7'
        have s3 := G.s3
        have s4 := G.s4
        have hpi := G.pi
        have hlt := G.lt
        have hby : s[p]'hlt = d := G.byte
        rcases G.zero with ⟨z0, z⟩ | ⟨z0, z⟩
        · have kz := kz (x0 z0)
          rw [show (T || (x != 0)) = T by rw [z0]; simp] at F
          clear x0 z0 k19 hx
          subst e2 e5 e7 e9 e13 e14 e15 e16 e17 ew
          go_wp2_with fail
          go_roundg g0
          case measure => exact Nat.lt_succ_self _
          case rel => exact ⟨k + 1, HK1.out, by rw [F.m1], by rw [F.t1], by rw [← HPP.out]; rfl, rfl, rfl, by simp, rfl, by rw [F.q1]; first | done | (push_cast; rfl), rfl, rfl⟩
        · have kz := kz (by omega)
          rw [show (T || (x != 0)) = true by simp [z0]] at F
          clear x0 z0 k19 hx
          subst e2 e5 e7 e9 e13 e14 e15 e16 e17 ew
          go_wp2_with fail
          go_roundg g0
          case measure => exact Nat.lt_succ_self _
          case rel => exact ⟨k + 1, HK1.out, by rw [F.m1], by rw [F.t1], by rw [← HPP.out]; rfl, rfl, rfl, by simp, rfl, by rw [F.q1]; first | done | (push_cast; rfl), rfl, rfl⟩
    · obtain rfl : k = n := by omega
      obtain rfl : gk = 0 := by omega
      obtain ⟨h101lt, h101⟩ := byte_of (show s.data.toList[p]? = some 101 by rw [← hpp, ← HN.out]; exact HP.out.e)
      obtain ⟨m, hm⟩ : ∃ m, el.length = m := ⟨_, rfl⟩
      obtain ⟨M, hM⟩ : ∃ M, Fl.mantN l k = M := ⟨_, rfl⟩
      obtain ⟨T, hT⟩ : ∃ T, Fl.truncN l k = T := ⟨_, rfl⟩
      obtain ⟨q, hq⟩ : ∃ q, min k 19 = q := ⟨_, rfl⟩
      rw [hM] at e2
      rw [hT] at e5
      rw [hq] at e16
      obtain ⟨p1, XS⟩ := XX.out p M hpp hM
      have hp1 := XS.e1
      have HM := Lib.hid hm
      have HMM := Lib.hid hM
      have HTT := Lib.hid hT
      have HQQ := Lib.hid hq
      have EF := EE.out q (by omega)
      have k1 := XS.n0
      have k2 := XS.pi
      have k3 := XS.pd
      have k3' := XS.pd'
      have k4 := XS.p1w
      have k4' := XS.p1w'
      have k5 := XS.p1d
      have k5' := XS.p1d'
      have k6 := XS.m0
      have k7 := XS.p1i
      rcases Int.lt_or_le E 0 with hE | hE
      · obtain ⟨A, rfl⟩ : ∃ A : Nat, E = -(A : Int) := ⟨E.natAbs, by omega⟩
        obtain ⟨h45elt, h45e⟩ := byte_of (show s.data.toList[p1]? = some 45 by rw [← hp1, ← hpp, ← HN.out]; exact HP.out.esign hE)
        have hbp : p1 + 1 = b := (BP.out p p1 hpp hp1).2 hE
        have XW := XY.out p1 b hbp HBL.out
        have x1 := XW.1
        have x1' := XW.2
        obtain ⟨y0, d1, hy0, _, G1, _⟩ := DE.out 0 b (by rw [HM.out]; have := HM0.out; omega) rfl
        have B1 := digB_of G1
        have b3 := B1.lo
        have b3' := B1.lo'
        have b4 := B1.hi
        have b4' := B1.hi'
        have hlt1 := G1.lt
        have hby1 : s[b]'hlt1 = d1 := G1.byte
        have hpi1 := G1.pi
        have P1 := placeF hlt1
        have b5 := P1.d1
        have b5' := P1.d2
        clear hm hM hT hq hk hkn hpp hE hp1 hy0 hbp
        subst e2 e5 e7 e9 e13 e14 e15 e16 e17 ew
        go_wp2_with fail
        refine (lower_e _).mono ?_
        rintro y w1 ⟨rfl, rfl⟩
        go_wp2_with fail
        go_loopg [7, 9, 20] m (fun f t7 t9 t20 wx => ∃ j bb : Nat, j + f = m ∧ b + j = bb ∧ t7 = .int .i64 (bb : Int) ∧ t9 = .bool false ∧ t20 = .int .i64 (Fl.num (el.take j) : Nat) ∧ wx = w1)
        case atStart => exact ⟨0, b, Nat.zero_add _, Nat.add_zero _, rfl, rfl, rfl, rfl⟩
        case round =>
         obtain ⟨j, bb, hj, hbb, e7, e9, e20, ew⟩ := hrel
         rcases Nat.lt_or_ge j m with hjm | hjm
         · obtain ⟨y, d, hy, hy9, G, hdv⟩ := DE.out j bb (by rw [HM.out]; exact hjm) hbb
           obtain ⟨g0, rfl⟩ : ∃ g0, gk = g0 + 1 := ⟨gk - 1, by omega⟩
           obtain ⟨e0, E10, S, e1, F⟩ := stepE hy hy9 HNE.out hdv
           have HBB := Lib.hid hbb
           have HJ1 := Lib.hid (show j + 1 + g0 = m by omega)
           rw [F.m0] at e20
           have r1 := G.r1
           have r3 := G.r3
           have r3' := G.r3'
           have r4 := G.r4
           have r4' := G.r4'
           have r6 := G.r6
           have r6' := G.r6'
           have r7 := G.r7
           have r7' := G.r7'
           have hpi := G.pi
           have hlt := G.lt
           have hby : s[bb]'hlt = d := G.byte
           have f0 := F.f0
           have f0' := F.f0'
           have f1 := F.f1
           have f1' := F.f1'
           have f2 := F.f2
           have f2' := F.f2'
           have f3 := F.f3
           have f3' := F.f3'
           have f4 := F.f4
           have f4' := F.f4'
           clear hj hbb hjm hy hy9 hdv
           subst e7 e9 e20 ew
           go_wp2_with fail
           go_roundg g0
           case measure => exact Nat.lt_succ_self _
           case rel => exact ⟨j + 1, bb + 1, HJ1.out, by rw [← HBB.out]; rfl, rfl, rfl, by rw [F.m1], rfl⟩
         · obtain rfl : j = m := by omega
           have hend := HEND.out j bb HM.out hbb
           have hd1 := hend.1
           have hd2 := hend.2
           have z1 := EF.w1
           have z1' := EF.w1'
           have z2 := EF.w2
           have z2' := EF.w2'
           have z3 := EF.w3
           have z3' := EF.w3'
           rw [HALL.out j HM.out, Int.natAbs_neg, Int.natAbs_natCast] at e20
           have HBB := Lib.hid (HBE.out j bb HM.out hbb)
           clear hj hbb hjm hend
           subst e7 e9 e20 ew
           go_wp2_with fail
           rw [Exit.noGoto_ret]
           refine bodyPost_ret (v := .tuple #[.int .u64 (M : Int), .int .i64 ((k : Int) + -(A : Int) - (q : Int)), .bool false, .bool T, .bool false, .int .i64 (bb : Int), .bool true]) (by simp [results, Tryz.results189, go_sem]) rfl ?_
           rw [HMM.out, HTT.out, HQQ.out, HBB.out]
           exact ⟨rfl, rfl⟩
      · obtain ⟨A, rfl⟩ : ∃ A : Nat, E = A := ⟨E.natAbs, by omega⟩
        have hbp : b = p1 := (BP.out p p1 hpp hp1).1 hE
        subst hbp
        obtain ⟨y0, d1, hy0, _, G1, _⟩ := DE.out 0 b (by rw [HM.out]; have := HM0.out; omega) rfl
        have B1 := digB_of G1
        have b1 := B1.b43
        have b2 := B1.b45
        have b3 := B1.lo
        have b3' := B1.lo'
        have b4 := B1.hi
        have b4' := B1.hi'
        have hlt1 := G1.lt
        have hby1 : s[b]'hlt1 = d1 := G1.byte
        clear hm hM hT hq hk hkn hpp hE hp1 hy0
        subst e2 e5 e7 e9 e13 e14 e15 e16 e17 ew
        go_wp2_with fail
        refine (lower_e _).mono ?_
        rintro y w1 ⟨rfl, rfl⟩
        go_wp2_with fail
        go_loopg [7, 9, 20] m (fun f t7 t9 t20 wx => ∃ j bb : Nat, j + f = m ∧ b + j = bb ∧ t7 = .int .i64 (bb : Int) ∧ t9 = .bool false ∧ t20 = .int .i64 (Fl.num (el.take j) : Nat) ∧ wx = w1)
        case atStart => exact ⟨0, b, Nat.zero_add _, Nat.add_zero _, rfl, rfl, rfl, rfl⟩
        case round =>
         obtain ⟨j, bb, hj, hbb, e7, e9, e20, ew⟩ := hrel
         rcases Nat.lt_or_ge j m with hjm | hjm
         · obtain ⟨y, d, hy, hy9, G, hdv⟩ := DE.out j bb (by rw [HM.out]; exact hjm) hbb
           obtain ⟨g0, rfl⟩ : ∃ g0, gk = g0 + 1 := ⟨gk - 1, by omega⟩
           obtain ⟨e0, E10, S, e1, F⟩ := stepE hy hy9 HNE.out hdv
           have HBB := Lib.hid hbb
           have HJ1 := Lib.hid (show j + 1 + g0 = m by omega)
           rw [F.m0] at e20
           have r1 := G.r1
           have r3 := G.r3
           have r3' := G.r3'
           have r4 := G.r4
           have r4' := G.r4'
           have r6 := G.r6
           have r6' := G.r6'
           have r7 := G.r7
           have r7' := G.r7'
           have hpi := G.pi
           have hlt := G.lt
           have hby : s[bb]'hlt = d := G.byte
           have f0 := F.f0
           have f0' := F.f0'
           have f1 := F.f1
           have f1' := F.f1'
           have f2 := F.f2
           have f2' := F.f2'
           have f3 := F.f3
           have f3' := F.f3'
           have f4 := F.f4
           have f4' := F.f4'
           clear hj hbb hjm hy hy9 hdv
           subst e7 e9 e20 ew
           go_wp2_with fail
           go_roundg g0
           case measure => exact Nat.lt_succ_self _
           case rel => exact ⟨j + 1, bb + 1, HJ1.out, by rw [← HBB.out]; rfl, rfl, rfl, by rw [F.m1], rfl⟩
         · obtain rfl : j = m := by omega
           have hend := HEND.out j bb HM.out hbb
           have hd1 := hend.1
           have hd2 := hend.2
           have z1 := EF.w1
           have z1' := EF.w1'
           have z2 := EF.w2
           have z2' := EF.w2'
           have z3 := EF.w3
           have z3' := EF.w3'
           rw [HALL.out j HM.out, Int.natAbs_natCast] at e20
           have HBB := Lib.hid (HBE.out j bb HM.out hbb)
           clear hj hbb hjm hend
           subst e7 e9 e20 ew
           go_wp2_with fail
           rw [Exit.noGoto_ret]
           refine bodyPost_ret (v := .tuple #[.int .u64 (M : Int), .int .i64 ((k : Int) + (A : Int) - (q : Int)), .bool false, .bool T, .bool false, .int .i64 (bb : Int), .bool true]) (by simp [results, Tryz.results189, go_sem]) rfl ?_
           rw [HMM.out, HTT.out, HQQ.out, HBB.out]
           exact ⟨rfl, rfl⟩
 | true =>
   have hs45 := HP.out.sign rfl
   obtain ⟨h45lt, h45⟩ := byte_of hs45
   clear hs45
   obtain rfl : a = 1 := by rw [ha]; rfl
   have c1b : decide ((3 : Int) < (s.size : Int)) = true := by simpa using c1
   have c1b' : decide (3 < s.size) = true := by simpa using c1'
   clear P h ha ha2 c1 c1'
   go_enter Tryz.func189, Tryz.ntmps189
   go_wp2_with fail
   go_step3
   go_wp2_with fail
   go_step3
   go_wp2_with fail
   go_loopg [2, 5, 7, 9, 13, 14, 15, 16, 17, 18] n (fun f t2 t5 t7 t9 t13 t14 t15 t16 t17 _ wx => ∃ k : Nat, k + f = n ∧ t2 = .int .u64 (Fl.mantN l k : Nat) ∧ t5 = .bool (Fl.truncN l k) ∧ t7 = .int .i64 ((1 + k : Nat) : Int) ∧ t9 = .bool false ∧ t13 = .bool false ∧ t14 = .bool (decide (0 < k)) ∧ t15 = .int .i64 (k : Int) ∧ t16 = .int .i64 (min k 19 : Nat) ∧ t17 = .int .i64 0 ∧ wx = w)
   case atStart => exact ⟨0, Nat.zero_add _, rfl, rfl, rfl, rfl, rfl, rfl, rfl, rfl, rfl, rfl⟩
   case round =>
    obtain ⟨k, hk, e2, e5, e7, e9, e13, e14, e15, e16, e17, ew⟩ := hrel
    obtain ⟨p, hpp⟩ : ∃ p, 1 + k = p := ⟨_, rfl⟩
    rw [hpp] at e7
    rcases Nat.lt_or_ge k n with hkn | hkn
    · obtain ⟨x, d, hx, G⟩ := DG.out k p hkn hpp
      obtain ⟨g0, rfl⟩ : ∃ g0, gk = g0 + 1 := ⟨gk - 1, by omega⟩
      have HPP := Lib.hid hpp
      have HK1 := Lib.hid (show k + 1 + g0 = n by omega)
      have kz := kzero k
      have x0 := XZ.out k x hx
      clear hpp hk hkn
      by_cases k19 : k < 19
      · obtain ⟨q, M, M10, M1, T, F⟩ := stepLo hdig.out hx k19
        rw [F.m0] at e2
        rw [F.t0] at e5
        rw [F.q0] at e16
        have s1 := F.s1
        have s1' := F.s1'
        have s2 := F.s2
        have s5 := F.s5
        have s6 := F.s6
        have s6' := F.s6'
        have r1 := G.r1
        have r2 := G.r2
        have r3 := G.r3
        have r3' := G.r3'
        have r4 := G.r4
        have r4' := G.r4'
        have r5 := G.r5
        have r5' := G.r5'
        have r6 := G.r6
        have r6' := G.r6'
        have r7 := G.r7
        have r7' := G.r7'
        have s3 := G.s3
        have s4 := G.s4
        have hpi := G.pi
        have hlt := G.lt
        have hby : s[p]'hlt = d := G.byte
        rcases G.zero with ⟨z0, z⟩ | ⟨z0, z⟩
        · have kz := kz (x0 z0)
          clear x0 z0 k19 hx
          subst e2 e5 e7 e9 e13 e14 e15 e16 e17 ew
          go_wp2_with fail
          go_roundg g0
          case measure => exact Nat.lt_succ_self _
          case rel => exact ⟨k + 1, HK1.out, by rw [F.m1], by rw [F.t1], by rw [← HPP.out]; rfl, rfl, rfl, by simp, rfl, by rw [F.q1]; first | done | (push_cast; rfl), rfl, rfl⟩
        · clear x0 z0 kz k19 hx
          subst e2 e5 e7 e9 e13 e14 e15 e16 e17 ew
          go_wp2_with fail
          go_roundg g0
          case measure => exact Nat.lt_succ_self _
          case rel => exact ⟨k + 1, HK1.out, by rw [F.m1], by rw [F.t1], by rw [← HPP.out]; rfl, rfl, rfl, by simp, rfl, by rw [F.q1]; first | done | (push_cast; rfl), rfl, rfl⟩
      · obtain ⟨q, M, T, F⟩ := stepHi hx k19
        rw [F.m0] at e2
        rw [F.t0] at e5
        rw [F.q0] at e16
        have s1 := F.s1
        have s1' := F.s1'
        have r1 := G.r1
        have r2 := G.r2
        have r3 := G.r3
        have r3' := G.r3'
        have r4 := G.r4
        have r4' := G.r4'
        have r5 := G.r5
        have r5' := G.r5'
        have r6 := G.r6
        have r6' := G.r6'
        have r7 := G.r7
        have r7' := G.r7'
        have s3 := G.s3
        have s4 := G.s4
        have hpi := G.pi
        have hlt := G.lt
        have hby : s[p]'hlt = d := G.byte
        rcases G.zero with ⟨z0, z⟩ | ⟨z0, z⟩
        · have kz := kz (x0 z0)
          rw [show (T || (x != 0)) = T by rw [z0]; simp] at F
          clear x0 z0 k19 hx
          subst e2 e5 e7 e9 e13 e14 e15 e16 e17 ew
          go_wp2_with fail
          go_roundg g0
          case measure => exact Nat.lt_succ_self _
          case rel => exact ⟨k + 1, HK1.out, by rw [F.m1], by rw [F.t1], by rw [← HPP.out]; rfl, rfl, rfl, by simp, rfl, by rw [F.q1]; first | done | (push_cast; rfl), rfl, rfl⟩
        · have kz := kz (by omega)
          rw [show (T || (x != 0)) = true by simp [z0]] at F
          clear x0 z0 k19 hx
          subst e2 e5 e7 e9 e13 e14 e15 e16 e17 ew
          go_wp2_with fail
          go_roundg g0
          case measure => exact Nat.lt_succ_self _
          case rel => exact ⟨k + 1, HK1.out, by rw [F.m1], by rw [F.t1], by rw [← HPP.out]; rfl, rfl, rfl, by simp, rfl, by rw [F.q1]; first | done | (push_cast; rfl), rfl, rfl⟩
    · obtain rfl : k = n := by omega
      obtain rfl : gk = 0 := by omega
      obtain ⟨h101lt, h101⟩ := byte_of (show s.data.toList[p]? = some 101 by rw [← hpp, ← HN.out]; exact HP.out.e)
      obtain ⟨m, hm⟩ : ∃ m, el.length = m := ⟨_, rfl⟩
      obtain ⟨M, hM⟩ : ∃ M, Fl.mantN l k = M := ⟨_, rfl⟩
      obtain ⟨T, hT⟩ : ∃ T, Fl.truncN l k = T := ⟨_, rfl⟩
      obtain ⟨q, hq⟩ : ∃ q, min k 19 = q := ⟨_, rfl⟩
      rw [hM] at e2
      rw [hT] at e5
      rw [hq] at e16
      obtain ⟨p1, XS⟩ := XX.out p M hpp hM
      have hp1 := XS.e1
      have HM := Lib.hid hm
      have HMM := Lib.hid hM
      have HTT := Lib.hid hT
      have HQQ := Lib.hid hq
      have EF := EE.out q (by omega)
      have k1 := XS.n0
      have k2 := XS.pi
      have k3 := XS.pd
      have k3' := XS.pd'
      have k4 := XS.p1w
      have k4' := XS.p1w'
      have k5 := XS.p1d
      have k5' := XS.p1d'
      have k6 := XS.m0
      have k7 := XS.p1i
      rcases Int.lt_or_le E 0 with hE | hE
      · obtain ⟨A, rfl⟩ : ∃ A : Nat, E = -(A : Int) := ⟨E.natAbs, by omega⟩
        obtain ⟨h45elt, h45e⟩ := byte_of (show s.data.toList[p1]? = some 45 by rw [← hp1, ← hpp, ← HN.out]; exact HP.out.esign hE)
        have hbp : p1 + 1 = b := (BP.out p p1 hpp hp1).2 hE
        have XW := XY.out p1 b hbp HBL.out
        have x1 := XW.1
        have x1' := XW.2
        obtain ⟨y0, d1, hy0, _, G1, _⟩ := DE.out 0 b (by rw [HM.out]; have := HM0.out; omega) rfl
        have B1 := digB_of G1
        have b3 := B1.lo
        have b3' := B1.lo'
        have b4 := B1.hi
        have b4' := B1.hi'
        have hlt1 := G1.lt
        have hby1 : s[b]'hlt1 = d1 := G1.byte
        have hpi1 := G1.pi
        have P1 := placeF hlt1
        have b5 := P1.d1
        have b5' := P1.d2
        clear hm hM hT hq hk hkn hpp hE hp1 hy0 hbp
        subst e2 e5 e7 e9 e13 e14 e15 e16 e17 ew
        go_wp2_with fail
        refine (lower_e _).mono ?_
        rintro y w1 ⟨rfl, rfl⟩
        go_wp2_with fail
        go_loopg [7, 9, 20] m (fun f t7 t9 t20 wx => ∃ j bb : Nat, j + f = m ∧ b + j = bb ∧ t7 = .int .i64 (bb : Int) ∧ t9 = .bool false ∧ t20 = .int .i64 (Fl.num (el.take j) : Nat) ∧ wx = w1)
        case atStart => exact ⟨0, b, Nat.zero_add _, Nat.add_zero _, rfl, rfl, rfl, rfl⟩
        case round =>
         obtain ⟨j, bb, hj, hbb, e7, e9, e20, ew⟩ := hrel
         rcases Nat.lt_or_ge j m with hjm | hjm
         · obtain ⟨y, d, hy, hy9, G, hdv⟩ := DE.out j bb (by rw [HM.out]; exact hjm) hbb
           obtain ⟨g0, rfl⟩ : ∃ g0, gk = g0 + 1 := ⟨gk - 1, by omega⟩
           obtain ⟨e0, E10, S, e1, F⟩ := stepE hy hy9 HNE.out hdv
           have HBB := Lib.hid hbb
           have HJ1 := Lib.hid (show j + 1 + g0 = m by omega)
           rw [F.m0] at e20
           have r1 := G.r1
           have r3 := G.r3
           have r3' := G.r3'
           have r4 := G.r4
           have r4' := G.r4'
           have r6 := G.r6
           have r6' := G.r6'
           have r7 := G.r7
           have r7' := G.r7'
           have hpi := G.pi
           have hlt := G.lt
           have hby : s[bb]'hlt = d := G.byte
           have f0 := F.f0
           have f0' := F.f0'
           have f1 := F.f1
           have f1' := F.f1'
           have f2 := F.f2
           have f2' := F.f2'
           have f3 := F.f3
           have f3' := F.f3'
           have f4 := F.f4
           have f4' := F.f4'
           clear hj hbb hjm hy hy9 hdv
           subst e7 e9 e20 ew
           go_wp2_with fail
           go_roundg g0
           case measure => exact Nat.lt_succ_self _
           case rel => exact ⟨j + 1, bb + 1, HJ1.out, by rw [← HBB.out]; rfl, rfl, rfl, by rw [F.m1], rfl⟩
         · obtain rfl : j = m := by omega
           have hend := HEND.out j bb HM.out hbb
           have hd1 := hend.1
           have hd2 := hend.2
           have z1 := EF.w1
           have z1' := EF.w1'
           have z2 := EF.w2
           have z2' := EF.w2'
           have z3 := EF.w3
           have z3' := EF.w3'
           rw [HALL.out j HM.out, Int.natAbs_neg, Int.natAbs_natCast] at e20
           have HBB := Lib.hid (HBE.out j bb HM.out hbb)
           clear hj hbb hjm hend
           subst e7 e9 e20 ew
           go_wp2_with fail
           rw [Exit.noGoto_ret]
           refine bodyPost_ret (v := .tuple #[.int .u64 (M : Int), .int .i64 ((k : Int) + -(A : Int) - (q : Int)), .bool true, .bool T, .bool false, .int .i64 (bb : Int), .bool true]) (by simp [results, Tryz.results189, go_sem]) rfl ?_
           rw [HMM.out, HTT.out, HQQ.out, HBB.out]
           exact ⟨rfl, rfl⟩
      · obtain ⟨A, rfl⟩ : ∃ A : Nat, E = A := ⟨E.natAbs, by omega⟩
        have hbp : b = p1 := (BP.out p p1 hpp hp1).1 hE
        subst hbp
        obtain ⟨y0, d1, hy0, _, G1, _⟩ := DE.out 0 b (by rw [HM.out]; have := HM0.out; omega) rfl
        have B1 := digB_of G1
        have b1 := B1.b43
        have b2 := B1.b45
        have b3 := B1.lo
        have b3' := B1.lo'
        have b4 := B1.hi
        have b4' := B1.hi'
        have hlt1 := G1.lt
        have hby1 : s[b]'hlt1 = d1 := G1.byte
        clear hm hM hT hq hk hkn hpp hE hp1 hy0
        subst e2 e5 e7 e9 e13 e14 e15 e16 e17 ew
        go_wp2_with fail
        refine (lower_e _).mono ?_
        rintro y w1 ⟨rfl, rfl⟩
        go_wp2_with fail
        go_loopg [7, 9, 20] m (fun f t7 t9 t20 wx => ∃ j bb : Nat, j + f = m ∧ b + j = bb ∧ t7 = .int .i64 (bb : Int) ∧ t9 = .bool false ∧ t20 = .int .i64 (Fl.num (el.take j) : Nat) ∧ wx = w1)
        case atStart => exact ⟨0, b, Nat.zero_add _, Nat.add_zero _, rfl, rfl, rfl, rfl⟩
        case round =>
         obtain ⟨j, bb, hj, hbb, e7, e9, e20, ew⟩ := hrel
         rcases Nat.lt_or_ge j m with hjm | hjm
         · obtain ⟨y, d, hy, hy9, G, hdv⟩ := DE.out j bb (by rw [HM.out]; exact hjm) hbb
           obtain ⟨g0, rfl⟩ : ∃ g0, gk = g0 + 1 := ⟨gk - 1, by omega⟩
           obtain ⟨e0, E10, S, e1, F⟩ := stepE hy hy9 HNE.out hdv
           have HBB := Lib.hid hbb
           have HJ1 := Lib.hid (show j + 1 + g0 = m by omega)
           rw [F.m0] at e20
           have r1 := G.r1
           have r3 := G.r3
           have r3' := G.r3'
           have r4 := G.r4
           have r4' := G.r4'
           have r6 := G.r6
           have r6' := G.r6'
           have r7 := G.r7
           have r7' := G.r7'
           have hpi := G.pi
           have hlt := G.lt
           have hby : s[bb]'hlt = d := G.byte
           have f0 := F.f0
           have f0' := F.f0'
           have f1 := F.f1
           have f1' := F.f1'
           have f2 := F.f2
           have f2' := F.f2'
           have f3 := F.f3
           have f3' := F.f3'
           have f4 := F.f4
           have f4' := F.f4'
           clear hj hbb hjm hy hy9 hdv
           subst e7 e9 e20 ew
           go_wp2_with fail
           go_roundg g0
           case measure => exact Nat.lt_succ_self _
           case rel => exact ⟨j + 1, bb + 1, HJ1.out, by rw [← HBB.out]; rfl, rfl, rfl, by rw [F.m1], rfl⟩
         · obtain rfl : j = m := by omega
           have hend := HEND.out j bb HM.out hbb
           have hd1 := hend.1
           have hd2 := hend.2
           have z1 := EF.w1
           have z1' := EF.w1'
           have z2 := EF.w2
           have z2' := EF.w2'
           have z3 := EF.w3
           have z3' := EF.w3'
           rw [HALL.out j HM.out, Int.natAbs_natCast] at e20
           have HBB := Lib.hid (HBE.out j bb HM.out hbb)
           clear hj hbb hjm hend
           subst e7 e9 e20 ew
           go_wp2_with fail
           rw [Exit.noGoto_ret]
           refine bodyPost_ret (v := .tuple #[.int .u64 (M : Int), .int .i64 ((k : Int) + (A : Int) - (q : Int)), .bool true, .bool T, .bool false, .int .i64 (bb : Int), .bool true]) (by simp [results, Tryz.results189, go_sem]) rfl ?_
           rw [HMM.out, HTT.out, HQQ.out, HBB.out]
           exact ⟨rfl, rfl⟩
structure TenPow (w : World) (B : Nat × Nat) : Prop where
 info : w.cell? ⟨9, 0, none⟩ = some (.int .u64 52)
 ptr : w.cell? ⟨12, 0, none⟩ = some (.slice (some ⟨B.1, B.2, none⟩) 23 23)
 row : ∀ k, k < 23 → w.cell? ⟨B.1, B.2 + k, none⟩ = some (.float .f64 (Fl.tenW.getD k 0))
def ExactS (d : Nat) (p : Int) (g : Bool) (w : World) (x : Ending) (w' : World) : Prop := ∃ F ok, x = .returned (.tuple #[.float .f64 F, .bool ok]) ∧ w' = w ∧ (ok = true → ∃ r, Fl.Near (Fl.vN d p) (Fl.vD p) r ∧ F = Ieee.double.word g r)
theorem neg_wordP {R : Nat} (h : R < 9223372036854775808) : Op.negFloat .f64 R = Ieee.double.word true R := by
 show R ^^^ 2 ^ 63 = 2 ^ 63 + R
 rw [show (2 : Nat) ^ 63 + R = 2 ^ 63 * 1 + R by omega, Nat.two_pow_add_eq_or_of_lt (by omega), Nat.mul_one]
 refine Nat.eq_of_testBit_eq fun i => ?_
 rw [Nat.testBit_xor, Nat.testBit_or, Nat.testBit_two_pow]
 by_cases hi : 63 = i
 · subst hi
   rw [Nat.testBit_lt_two_pow (by omega)]
   rfl
 · rw [decide_eq_false hi, Bool.xor_false, Bool.false_or]
theorem run_neg64 {R : Nat} (h : R < 9223372036854775808) (W : World) : (Op.unary UnOp.neg (.float .f64 R)).run Tryz.prog W = .ok (.float .f64 (Ieee.double.word true R)) W := by
 rw [← neg_wordP h]
 rfl
theorem exact_far (d : Nat) (p : Int) (g : Bool) (hd : 4503599627370496 ≤ d) (hd2 : d < 18446744073709551616) (w : World) (B : Nat × Nat) (hT : TenPow w B) : Calls Tryz.prog 199 #[.int .u64 (d : Int), .int .i64 p, .bool g] w (ExactS d p g w) := by
 have e0 := hT.info
 clear hT
 obtain ⟨q, hq⟩ : ∃ q : Nat, d / 4503599627370496 = q := ⟨_, rfl⟩
 have f1 : (d : Int) / 4503599627370496 = (q : Int) := by omega
 have f2 : IntKind.u64.wrap (q : Int) = (q : Int) := by rw [IntKind.wrap_u64]; omega
 have f3 : ((q : Int) == 0) = false := by rw [beq_eq_false_iff_ne]; omega
 have HQ := Lib.hid (And.intro hq (And.intro hd hd2))
 clear hq hd hd2
 go_enter Tryz.func199, Tryz.ntmps199
 go_wp2_with fail
 go_ret2
 exact ⟨0, false, rfl, rfl, fun h => by cases h⟩
theorem exact_zero (d : Nat) (g : Bool) (h0 : 0 < d) (hd : d < 4503599627370496) (w : World) (B : Nat × Nat) (hT : TenPow w B) : Calls Tryz.prog 199 #[.int .u64 (d : Int), .int .i64 0, .bool g] w (ExactS d 0 g w) := by
 have e0 := hT.info
 clear hT
 have f1 : (d : Int) / 4503599627370496 = 0 := by omega
 have cv := cvt_nat d h0 (by omega)
 have near : Fl.Near (Fl.vN d 0) (Fl.vD 0) (Fl.wordN d) := by
  have := Fl.wordN_near h0 (by omega : d < 9007199254740992)
  unfold Fl.vN Fl.vD
  rw [if_pos (by decide), if_pos (by decide), show (10 : Nat) ^ (0 : Int).toNat = 1 from rfl, Nat.mul_one]
  exact this
 have hb := (Fl.wordN_rung h0 (by omega : d < 9007199254740992)).2.2
 obtain ⟨R, hR⟩ : ∃ R, Fl.wordN d = R := ⟨_, rfl⟩
 rw [hR] at cv near hb
 have ng := fun W => run_neg64 (R := R) (by omega) W
 obtain ⟨F, hF⟩ : ∃ F, Ieee.double.word true R = F := ⟨_, rfl⟩
 rw [hF] at ng
 have HF := Lib.hid hF
 clear hF hb
 have HN := Lib.hid near
 clear hR near h0 hd
 cases g
 · go_enter Tryz.func199, Tryz.ntmps199
   go_wp2_with fail
   go_ret2
   exact ⟨R, true, rfl, rfl, fun _ => ⟨R, HN.out, rfl⟩⟩
 · go_enter Tryz.func199, Tryz.ntmps199
   go_wp2_with fail
   go_ret2
   exact ⟨F, true, rfl, rfl, fun _ => ⟨R, HN.out, HF.out.symm⟩⟩
theorem key_word (g : Bool) {R : Nat} (h : R ≤ 9218868437227405312) : Fl.key (Ieee.double.word g R) = Fl.skey g R := by
 cases g
 · rw [Fl.word_false]
   unfold Fl.key
   rw [decide_eq_false (by omega), Nat.mod_eq_of_lt (by omega)]
 · show Fl.key (9223372036854775808 + R) = _
   unfold Fl.key
   rw [decide_eq_true (by omega), show (9223372036854775808 + R) % 9223372036854775808 = R by omega]
theorem word_lt (g : Bool) {R : Nat} (h : R ≤ 9218868437227405312) : Ieee.double.word g R < 18446744073709551616 ∧ Ieee.double.word g R % 9223372036854775808 ≤ 9218868437227405312 := by
 cases g
 · rw [Fl.word_false]; omega
 · show 9223372036854775808 + R < _ ∧ (9223372036854775808 + R) % _ ≤ _
   omega
theorem gtf (g : Bool) {R : Nat} (h : R ≤ 9218868437227405312) : (FloatKind.f64.format.order (Ieee.double.word g R) 4831355200913801216 == some Ordering.gt) = (!g && decide (4831355200913801216 < R)) := by
 obtain ⟨a, b⟩ := word_lt g h
 rw [order_key a (by omega) b (by omega), key_word g h]
 have : Fl.key 4831355200913801216 = 4831355200913801216 := by decide
 rw [this]
 unfold Fl.skey
 rcases Int.lt_trichotomy (if g = true then -(R : Int) else (R : Int)) 4831355200913801216 with q | q | q
 · rw [Int.compare_eq_lt.2 q]
   cases g
   · simp at q; rw [decide_eq_false (by omega)]; rfl
   · rfl
 · rw [Int.compare_eq_eq.2 q]
   cases g
   · simp at q; rw [decide_eq_false (by omega)]; rfl
   · rfl
 · rw [Int.compare_eq_gt.2 q]
   cases g
   · simp at q; rw [decide_eq_true (by omega)]; rfl
   · simp at q; omega
theorem ltf (g : Bool) {R : Nat} (h : R ≤ 9218868437227405312) : (FloatKind.f64.format.order (Ieee.double.word g R) 14054727237768577024 == some Ordering.lt) = (g && decide (4831355200913801216 < R)) := by
 obtain ⟨a, b⟩ := word_lt g h
 rw [order_key a (by omega) b (by omega), key_word g h]
 have : Fl.key 14054727237768577024 = -4831355200913801216 := by decide
 rw [this]
 unfold Fl.skey
 rcases Int.lt_trichotomy (if g = true then -(R : Int) else (R : Int)) (-4831355200913801216) with q | q | q
 · rw [Int.compare_eq_lt.2 q]
   cases g
   · simp at q; omega
   · simp at q; rw [decide_eq_true (by omega)]; rfl
 · rw [Int.compare_eq_eq.2 q]
   cases g
   · rfl
   · simp at q; rw [decide_eq_false (by omega)]; rfl
 · rw [Int.compare_eq_gt.2 q]
   cases g
   · rfl
   · simp at q; rw [decide_eq_false (by omega)]; rfl
theorem mulw (g : Bool) {R T : Nat} (hR : R < 9218868437227405312) (hT : T < 9218868437227405312) : Ieee.double.mul (Ieee.double.word g R) T = some (Ieee.double.word g (Fl.mulR R T)) := by
 have := Fl.mul_words Ieee.double (g := g) (R := R) (T := T) hR hT
 rw [Fl.word_false] at this
 exact this
theorem divw (g : Bool) {R T : Nat} (hR : R < 9218868437227405312) (hT : T < 9218868437227405312) (h0 : 0 < T) : Ieee.double.div (Ieee.double.word g R) T = some (Ieee.double.word g (Fl.divR R T)) := by
 have := Fl.div_words Ieee.double (g := g) (R := R) (T := T) rfl hR hT (Nat.ne_of_gt (Fl.rmag_pos h0))
 rw [Fl.word_false] at this
 exact this
end Go.Proofs.YtjapgpmoojfhnaaGreatDoor
