/- set of the library's decimal. -/
import Derived.Test.YtjapgpmoojfhnaaGreatDoorB34
import Derived.StillTailTactics
set_option maxHeartbeats 16000000
set_option maxRecDepth 100000
set_option linter.unusedSimpArgs false
set_option linter.unusedVariables false
namespace Go.Proofs.YtjapgpmoojfhnaaGreatDoor
open Go.RowKit Go.Lib
def Dk (l : List Nat) (k : Nat) : List Nat := (l.take k).map (48 + ·) ++ List.replicate (800 - k) 0
theorem dk_set {l : List Nat} {k x : Nat} (h : l[k]? = some x) (hk : k < 800) : (Dk l k).set k (48 + x) = Dk l (k + 1) := by
 obtain ⟨hkl, hx⟩ := List.getElem?_eq_some_iff.1 h
 have hlen : ((l.take k).map (48 + ·)).length = k := by rw [List.length_map, List.length_take]; omega
 unfold Dk
 rw [List.set_append, if_neg (by omega), hlen, Nat.sub_self, show 800 - k = (800 - (k + 1)) + 1 by omega, List.replicate_succ, List.set_cons_zero, Fl.take_snoc h, List.map_append, List.append_assoc]
 rfl
theorem dk_byte {l : List Nat} {k : Nat} (hk : k < 800) (hl : k ≤ l.length) : (Dk l k)[k]? = some 0 := by
 have hlen : ((l.take k).map (48 + ·)).length = k := by rw [List.length_map, List.length_take]; omega
 unfold Dk
 rw [List.getElem?_append_right (by omega), hlen, Nat.sub_self, show 800 - k = (800 - (k + 1)) + 1 by omega, List.replicate_succ]
 rfl
theorem dk_all (l : List Nat) : Dk l l.length = l.map (48 + ·) ++ List.replicate (800 - l.length) 0 := by unfold Dk; rw [List.take_length]
structure SetAt (s : ByteArray) (k p x : Nat) (d : UInt8) : Prop where
 g : DigAt s k p x d
 v : d.toNat = 48 + x
 z : x = 0 → ((k : Int) == 0) = false
 k8 : decide ((k : Int) < 800) = true
 k8' : decide (k < 800) = true
 lt8 : k < 800
 j1 : (k : Int) < 800
theorem st_fuel {k f n : Nat} (h : k + f = n) (h2 : k < n) : ∃ g0, f = g0 + 1 ∧ k + 1 + g0 = n := ⟨f - 1, by omega, by omega⟩
theorem st_next {A k q : Nat} (h : A + k = q) : A + (k + 1) = q + 1 := by omega
theorem st_cast {x y : Nat} (h : x = y) : (x : Int) = (y : Int) := by rw [h]
theorem st_end {k n f : Nat} (h : k + f = n) (h2 : n ≤ k) : k = n := by omega
theorem set_any (X : Nat) (s : ByteArray) (g : Bool) (l : List Nat) (E : Int) (h : Fl.DecTxt s g l E) (w : World) (hX : DcAt w X (List.replicate 800 0) 0 0 false false) :
 Calls Tryz.prog 195 #[.pointer (some ⟨X, 0, none⟩), .string s] w (SetEnd X (Dk l l.length) l.length E g w) := by
 obtain ⟨a, b, el, P⟩ := h.pos
 have PRE := setPre h P
 obtain ⟨p, p1, XS, hlen, hs1, _, _, _, _, _, _, _, hpp, _, hpe, _, _, _, _⟩ := PRE
 have hn0 : 0 < l.length := List.length_pos_iff.2 h.ne
 have ha := P.ha
 have hks := XS.pi
 have HD := Lib.hid (show ∀ k q, k < l.length → a + k = q → ∃ x d, l[k]? = some x ∧ SetAt s k q x d from fun k q hk hq => by
  have hx : l[k]? = some (l[k]'hk) := List.getElem?_eq_getElem _
  have hx9 := h.digs _ (List.mem_of_getElem? hx)
  obtain ⟨d, G⟩ := digAt (s := s) (p := a + k) k hs1 (by omega) hx9 (P.coef k _ hx)
  have hv := digAt_val G hx9 (P.coef k _ hx)
  subst hq
  refine ⟨_, d, hx, G, hv, fun h0 => ?_, decide_eq_true (by omega), decide_eq_true (by omega), by omega, by omega⟩
  rw [beq_eq_false_iff_ne]
  intro h1
  obtain rfl : k = 0 := by omega
  exact h.head _ (by rw [List.head?_eq_getElem?]; exact hx) h0)
 obtain ⟨helt, hel1⟩ := byte_of hpe
 have HX := Lib.hid hX
 have HT := Lib.hid (And.intro h P)
 have HPP := Lib.hid hpp
 have k1 := XS.n0
 have k2 := XS.pi
 have k3 := XS.pd
 have k3' := XS.pd'
 have z2 := hX.free 802
 have x2 := hX.c2
 have x3 := hX.c3
 have z3 := hX.free 803
 have hs0 : decide ((s.size : Int) ≤ 0) = false := decide_eq_false (by omega)
 have hs0' : decide (s.size ≤ 0) = false := decide_eq_false (by omega)
 have hs00 : s.size ≠ 0 := by omega
 have hse : s ≠ ByteArray.empty := fun he => by rw [he] at hs00; exact hs00 rfl
 have i0 : (0 : Int) < s.size := by omega
 obtain ⟨x0, d0, hx0, G0⟩ := HD.out 0 a hn0 rfl
 have B0 := digB_of G0.g
 have b1 := B0.b43
 have b2 := B0.b45
 have hka := G0.g.lt
 have hda : s[a]'hka = d0 := G0.g.byte
 obtain ⟨n, hn⟩ : ∃ n, l.length = n := ⟨_, rfl⟩
 have HN := Lib.hid hn
 have HSG := Lib.hid P.sign
 have HA := Lib.hid ha
 rw [hn] at k1 hlen
 clear h P hX XS hpp hx0 G0 B0 hpe hn hs1 hn0 hs00
 cases g with
 | false =>
   obtain rfl : a = 0 := HA.out
   clear ha
   go_enter Tryz.func195, Tryz.ntmps195
   go_upto_region 4 with fail
   have hA : DcAt ((w.setCell ⟨X, 802, none⟩ (.bool false)).setCell ⟨X, 803, none⟩ (.bool false)) X (Dk l 0) 0 0 false false ∧ Below X w ((w.setCell ⟨X, 802, none⟩ (.bool false)).setCell ⟨X, 803, none⟩ (.bool false)) :=
    ⟨(HX.out.set2 false).set3 false, ((Below.refl X w).setCell (show X ≤ (⟨X, 802, none⟩ : Addr).block from Nat.le_refl X) _).setCell (show X ≤ (⟨X, 803, none⟩ : Addr).block from Nat.le_refl X) _⟩
   generalize (w.setCell ⟨X, 802, none⟩ (.bool false)).setCell ⟨X, 803, none⟩ (.bool false) = wA at hA ⊢
   clear x2 x3 z2 z3
   have HY := Lib.hid hA
   have x2 := hA.1.c2
   have z2 := hA.1.free 802
   clear hA
   go_upto_block 1 with fail
   go_cut [5, 6, 7] (fun t5 t6 t7 wx => t5 = .int .i64 (p : Int) ∧ t6 = .bool false ∧ t7 = .bool true ∧ DcAt wx X (Dk l n) n 0 false false ∧ Below X w wx)
   case first =>
    go_upto_region 13 with fail
    go_loopg [5, 6, 7] n (fun f t5 t6 t7 wx => ∃ k q : Nat, k + f = n ∧ 0 + k = q ∧ t5 = .int .i64 (q : Int) ∧ t6 = .bool false ∧ t7 = .bool (decide (0 < k)) ∧ DcAt wx X (Dk l k) k 0 false false ∧ Below X w wx)
    case atStart => exact ⟨0, 0, Nat.zero_add _, rfl, rfl, rfl, rfl, HY.out.1, HY.out.2⟩
    case round =>
     obtain ⟨k, q, hk, hq, e5, e6, e7, hW, hbx⟩ := hrel
     rcases Nat.lt_or_ge k n with hkn | hkn
     · obtain ⟨x, d, hx, G⟩ := HD.out k q (by rw [HN.out]; exact hkn) hq
       obtain ⟨g0, rfl, hk'⟩ := st_fuel hk hkn
       have hk8 : k < 800 := G.lt8
       have HK := Lib.hid (And.intro hk' (And.intro (st_next hq) hk8))
       have HG := Lib.hid (And.intro (dk_set hx hk8) (st_cast G.v))
       have r1 := G.g.r1
       have r2 := G.g.r2
       have r3 := G.g.r3
       have r3' := G.g.r3'
       have r4 := G.g.r4
       have r4' := G.g.r4'
       have r5 := G.g.r5
       have r5' := G.g.r5'
       have r6 := G.g.r6
       have r6' := G.g.r6'
       have r7 := G.g.r7
       have r7' := G.g.r7'
       have hpi := G.g.pi
       have hlt := G.g.lt
       have hby : s[q]'hlt = d := G.g.byte
       have k8 := G.k8
       have k8' := G.k8'
       have j0 : (0 : Int) ≤ (k : Int) := Int.natCast_nonneg k
       have j1 : (k : Int) < 800 := G.j1
       have y0 := hW.c0
       have yb := hW.byte (dk_byte hk8 (by rw [HN.out]; exact Nat.le_of_lt hkn))
       have z0 := hW.free 800
       have zb := hW.free k
       have HW := Lib.hid (And.intro hW hbx)
       have gz := G.z
       rcases G.g.zero with ⟨h0, h48⟩ | ⟨h0, h48⟩
       · have hz := gz h0
         clear hk hk' hq hkn hk8 hW hbx hx G gz h0
         subst e5 e6 e7
         go_upto_region 25 with fail
         go_still_tail 11, (by kernel_rfl)
         change wpList _ _ _ _ _ wr.drew
         go_upto_region 26 with fail
         have q0 := (HW.out.1.setB HK.out.2.2 (48 + x)).drew
         rw [HG.out.1, ← HG.out.2] at q0
         have q1 := (HW.out.2.setCell (show X ≤ (⟨X, k, none⟩ : Addr).block from Nat.le_refl X) (Value.int .u8 (d.toNat : Int))).drew
         generalize (wr.setCell ⟨X, k, none⟩ (.int .u8 (d.toNat : Int))).drew = wz at q0 q1 ⊢
         clear y0 z0 yb zb
         have y0 := q0.c0
         have z0 := q0.free 800
         have HQ := Lib.hid (And.intro q0 q1)
         clear q0 q1
         go_wp2_with fail
         go_roundg g0
         case measure => exact Nat.lt_succ_self _
         case rel =>
          have q1 := HQ.out.1.set0 ((k + 1 : Nat) : Int)
          exact ⟨k + 1, q + 1, HK.out.1, HK.out.2.1, by first | rfl | exact congrArg (Value.int .i64) r6', rfl, rfl, by first | exact q1 | (rw [r5'] ; exact q1), HQ.out.2.setCell (show X ≤ (⟨X, 800, none⟩ : Addr).block from Nat.le_refl X) _⟩
       · clear hk hk' hq hkn hk8 hW hbx hx G gz h0
         subst e5 e6 e7
         go_upto_region 25 with fail
         go_still_tail 11, (by kernel_rfl)
         change wpList _ _ _ _ _ wr.drew
         go_upto_region 26 with fail
         have q0 := (HW.out.1.setB HK.out.2.2 (48 + x)).drew
         rw [HG.out.1, ← HG.out.2] at q0
         have q1 := (HW.out.2.setCell (show X ≤ (⟨X, k, none⟩ : Addr).block from Nat.le_refl X) (Value.int .u8 (d.toNat : Int))).drew
         generalize (wr.setCell ⟨X, k, none⟩ (.int .u8 (d.toNat : Int))).drew = wz at q0 q1 ⊢
         clear y0 z0 yb zb
         have y0 := q0.c0
         have z0 := q0.free 800
         have HQ := Lib.hid (And.intro q0 q1)
         clear q0 q1
         go_wp2_with fail
         go_roundg g0
         case measure => exact Nat.lt_succ_self _
         case rel =>
          have q1 := HQ.out.1.set0 ((k + 1 : Nat) : Int)
          exact ⟨k + 1, q + 1, HK.out.1, HK.out.2.1, by first | rfl | exact congrArg (Value.int .i64) r6', rfl, rfl, by first | exact q1 | (rw [r5'] ; exact q1), HQ.out.2.setCell (show X ≤ (⟨X, 800, none⟩ : Addr).block from Nat.le_refl X) _⟩
     · obtain rfl : k = n := st_end hk hkn
       obtain rfl : q = p := by have h1 := HPP.out; have h2 := HN.out; omega
       have hd0 : decide (0 < k) = true := k1
       have HW := Lib.hid (And.intro hW hbx)
       clear hk hq hkn hW hbx
       subst e5 e6 e7
       go_wp2_with fail
       go_meet
       exact ⟨rfl, rfl, by rw [hd0], HW.out.1, HW.out.2⟩
   case rest =>
    obtain ⟨rfl, rfl, rfl, a1, a2⟩ := hcut
    rw [← HPP.out]
    exact set_tail X (Dk l l.length) s false false l E 0 b el HT.out.1 HT.out.2 w _ _ _ _ _ _ _ _ _ _ _ _ _ _ _ _ _ _ _ _ _ _ _ _ _ _ _ _ _ _ _ _ _ _ _ _ _ _ _ _ _ _ _ _ _ _ _ _ _ _ _ _ _ _ _ _ _ _ _ _ _ _ _ _ _ _ _ _ _ _ _ _ _ _ _ _ _ _ _ _ _ _ _ _ _ _ _ _ _ _ _ _ _ _ _ _ _ _ _ _ _ _ _ _ _ _ _ _ _ _ _ _ _ _ _ _ _ _ _ _ _ _ _ _ _ _ _ _ _ _ _ _ _ _ _ _ _ _ _ _ _ _ _ _ _ _ _ _ _ _ _ _ _ _ _ _ _ _ _ _ _ _ _ _ _ _ _ _ _ _ _ _ _ _ _ _ _ _ _ _ _ _ _ _ _ _ _ _ _ _ _ _ _ _ _ _ _ _ _ _ _ _ _ _ _ _ _ _ _ _ _ _ _ _ _ _ _ _ _ (by assumption) (by have h1 := a1; rw [← HN.out] at h1; exact h1) a2
 | true =>
   obtain rfl : a = 1 := HA.out
   obtain ⟨h45lt, h45⟩ := byte_of (HSG.out rfl)
   clear ha
   go_enter Tryz.func195, Tryz.ntmps195
   go_upto_region 4 with fail
   have hA : DcAt ((w.setCell ⟨X, 802, none⟩ (.bool false)).setCell ⟨X, 803, none⟩ (.bool false)) X (Dk l 0) 0 0 false false ∧ Below X w ((w.setCell ⟨X, 802, none⟩ (.bool false)).setCell ⟨X, 803, none⟩ (.bool false)) :=
    ⟨(HX.out.set2 false).set3 false, ((Below.refl X w).setCell (show X ≤ (⟨X, 802, none⟩ : Addr).block from Nat.le_refl X) _).setCell (show X ≤ (⟨X, 803, none⟩ : Addr).block from Nat.le_refl X) _⟩
   generalize (w.setCell ⟨X, 802, none⟩ (.bool false)).setCell ⟨X, 803, none⟩ (.bool false) = wA at hA ⊢
   clear x2 x3 z2 z3
   have HY := Lib.hid hA
   have x2 := hA.1.c2
   have z2 := hA.1.free 802
   clear hA
   go_upto_region 11 with fail
   have hB : DcAt (wA.setCell ⟨X, 802, none⟩ (.bool true)) X (Dk l 0) 0 0 true false ∧ Below X w (wA.setCell ⟨X, 802, none⟩ (.bool true)) := ⟨HY.out.1.set2 true, HY.out.2.setCell (show X ≤ (⟨X, 802, none⟩ : Addr).block from Nat.le_refl X) _⟩
   generalize wA.setCell ⟨X, 802, none⟩ (.bool true) = wB at hB ⊢
   clear HY x2 z2
   have HY := Lib.hid hB
   clear hB
   go_upto_block 1 with fail
   go_cut [5, 6, 7] (fun t5 t6 t7 wx => t5 = .int .i64 (p : Int) ∧ t6 = .bool false ∧ t7 = .bool true ∧ DcAt wx X (Dk l n) n 0 true false ∧ Below X w wx)
   case first =>
    go_upto_region 13 with fail
    go_loopg [5, 6, 7] n (fun f t5 t6 t7 wx => ∃ k q : Nat, k + f = n ∧ 1 + k = q ∧ t5 = .int .i64 (q : Int) ∧ t6 = .bool false ∧ t7 = .bool (decide (0 < k)) ∧ DcAt wx X (Dk l k) k 0 true false ∧ Below X w wx)
    case atStart => exact ⟨0, 1, Nat.zero_add _, rfl, rfl, rfl, rfl, HY.out.1, HY.out.2⟩
    case round =>
     obtain ⟨k, q, hk, hq, e5, e6, e7, hW, hbx⟩ := hrel
     rcases Nat.lt_or_ge k n with hkn | hkn
     · obtain ⟨x, d, hx, G⟩ := HD.out k q (by rw [HN.out]; exact hkn) hq
       obtain ⟨g0, rfl, hk'⟩ := st_fuel hk hkn
       have hk8 : k < 800 := G.lt8
       have HK := Lib.hid (And.intro hk' (And.intro (st_next hq) hk8))
       have HG := Lib.hid (And.intro (dk_set hx hk8) (st_cast G.v))
       have r1 := G.g.r1
       have r2 := G.g.r2
       have r3 := G.g.r3
       have r3' := G.g.r3'
       have r4 := G.g.r4
       have r4' := G.g.r4'
       have r5 := G.g.r5
       have r5' := G.g.r5'
       have r6 := G.g.r6
       have r6' := G.g.r6'
       have r7 := G.g.r7
       have r7' := G.g.r7'
       have hpi := G.g.pi
       have hlt := G.g.lt
       have hby : s[q]'hlt = d := G.g.byte
       have k8 := G.k8
       have k8' := G.k8'
       have j0 : (0 : Int) ≤ (k : Int) := Int.natCast_nonneg k
       have j1 : (k : Int) < 800 := G.j1
       have y0 := hW.c0
       have yb := hW.byte (dk_byte hk8 (by rw [HN.out]; exact Nat.le_of_lt hkn))
       have z0 := hW.free 800
       have zb := hW.free k
       have HW := Lib.hid (And.intro hW hbx)
       have gz := G.z
       rcases G.g.zero with ⟨h0, h48⟩ | ⟨h0, h48⟩
       · have hz := gz h0
         clear hk hk' hq hkn hk8 hW hbx hx G gz h0
         subst e5 e6 e7
         go_upto_region 25 with fail
         go_still_tail 11, (by kernel_rfl)
         change wpList _ _ _ _ _ wr.drew
         go_upto_region 26 with fail
         have q0 := (HW.out.1.setB HK.out.2.2 (48 + x)).drew
         rw [HG.out.1, ← HG.out.2] at q0
         have q1 := (HW.out.2.setCell (show X ≤ (⟨X, k, none⟩ : Addr).block from Nat.le_refl X) (Value.int .u8 (d.toNat : Int))).drew
         generalize (wr.setCell ⟨X, k, none⟩ (.int .u8 (d.toNat : Int))).drew = wz at q0 q1 ⊢
         clear y0 z0 yb zb
         have y0 := q0.c0
         have z0 := q0.free 800
         have HQ := Lib.hid (And.intro q0 q1)
         clear q0 q1
         go_wp2_with fail
         go_roundg g0
         case measure => exact Nat.lt_succ_self _
         case rel =>
          have q1 := HQ.out.1.set0 ((k + 1 : Nat) : Int)
          exact ⟨k + 1, q + 1, HK.out.1, HK.out.2.1, by first | rfl | exact congrArg (Value.int .i64) r6', rfl, rfl, by first | exact q1 | (rw [r5'] ; exact q1), HQ.out.2.setCell (show X ≤ (⟨X, 800, none⟩ : Addr).block from Nat.le_refl X) _⟩
       · clear hk hk' hq hkn hk8 hW hbx hx G gz h0
         subst e5 e6 e7
         go_upto_region 25 with fail
         go_still_tail 11, (by kernel_rfl)
         change wpList _ _ _ _ _ wr.drew
         go_upto_region 26 with fail
         have q0 := (HW.out.1.setB HK.out.2.2 (48 + x)).drew
         rw [HG.out.1, ← HG.out.2] at q0
         have q1 := (HW.out.2.setCell (show X ≤ (⟨X, k, none⟩ : Addr).block from Nat.le_refl X) (Value.int .u8 (d.toNat : Int))).drew
         generalize (wr.setCell ⟨X, k, none⟩ (.int .u8 (d.toNat : Int))).drew = wz at q0 q1 ⊢
         clear y0 z0 yb zb
         have y0 := q0.c0
         have z0 := q0.free 800
         have HQ := Lib.hid (And.intro q0 q1)
         clear q0 q1
         go_wp2_with fail
         go_roundg g0
         case measure => exact Nat.lt_succ_self _
         case rel =>
          have q1 := HQ.out.1.set0 ((k + 1 : Nat) : Int)
          exact ⟨k + 1, q + 1, HK.out.1, HK.out.2.1, by first | rfl | exact congrArg (Value.int .i64) r6', rfl, rfl, by first | exact q1 | (rw [r5'] ; exact q1), HQ.out.2.setCell (show X ≤ (⟨X, 800, none⟩ : Addr).block from Nat.le_refl X) _⟩
     · obtain rfl : k = n := st_end hk hkn
       obtain rfl : q = p := by have h1 := HPP.out; have h2 := HN.out; omega
       have hd0 : decide (0 < k) = true := k1
       have HW := Lib.hid (And.intro hW hbx)
       clear hk hq hkn hW hbx
       subst e5 e6 e7
       go_wp2_with fail
       go_meet
       exact ⟨rfl, rfl, by rw [hd0], HW.out.1, HW.out.2⟩
   case rest =>
    obtain ⟨rfl, rfl, rfl, a1, a2⟩ := hcut
    rw [← HPP.out]
    exact set_tail X (Dk l l.length) s true true l E 1 b el HT.out.1 HT.out.2 w _ _ _ _ _ _ _ _ _ _ _ _ _ _ _ _ _ _ _ _ _ _ _ _ _ _ _ _ _ _ _ _ _ _ _ _ _ _ _ _ _ _ _ _ _ _ _ _ _ _ _ _ _ _ _ _ _ _ _ _ _ _ _ _ _ _ _ _ _ _ _ _ _ _ _ _ _ _ _ _ _ _ _ _ _ _ _ _ _ _ _ _ _ _ _ _ _ _ _ _ _ _ _ _ _ _ _ _ _ _ _ _ _ _ _ _ _ _ _ _ _ _ _ _ _ _ _ _ _ _ _ _ _ _ _ _ _ _ _ _ _ _ _ _ _ _ _ _ _ _ _ _ _ _ _ _ _ _ _ _ _ _ _ _ _ _ _ _ _ _ _ _ _ _ _ _ _ _ _ _ _ _ _ _ _ _ _ _ _ _ _ _ _ _ _ _ _ _ _ _ _ _ _ _ _ _ _ _ _ _ _ _ _ _ _ _ _ _ _ (by assumption) (by have h1 := a1; rw [← HN.out] at h1; exact h1) a2
end Go.Proofs.YtjapgpmoojfhnaaGreatDoor
