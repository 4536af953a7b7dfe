/- The contract of Round. -/
import Derived.Test.YtmgafnflkfbckaaGreatDoorWalkAD
import Derived.Test.YtmgafnflkfbckaaGreatDoorWalkAE
namespace Go.Proofs.YtmgafnflkfbckaaGreatDoor
open Go.RowKit Go.Lib

/-- What Round answers. -/
def roundV (l : List UInt8) (p : Int) : Value := match Dc.readP l with
  | none => .tuple #[.string ⟨#[]⟩, .int .i64 3]
  | some x => if p < -2000 ∨ 2000 < p then .tuple #[.string ⟨#[]⟩, .int .i64 1] else resV (Dc.roundP x p)
/-- Keeping digits: the row after the increment, and its length. -/
theorem up_len (up : Bool) (L : List Nat) (h : Dc.Digs L) : (if up = true then (Dc.incL L).1 else L).length = L.length ∧ Dc.Digs (if up = true then (Dc.incL L).1 else L) := by
  obtain ⟨_, h2, h3⟩ := Dc.incL_num L h
  split
  · exact ⟨h3, h2⟩
  · exact ⟨rfl, h⟩

set_option maxHeartbeats 2000000 in
set_option maxRecDepth 100000 in
theorem round_some (s : ByteArray) (p : Int) (y : Dc.D) (w : World) (hs : s.size ≤ 536870912) (hL : Laid w) (hy : Dc.readP s.data.toList = some y) (hp : -2000 ≤ p ∧ p ≤ 2000) :
    Calls Tryz.prog 15 #[.string s, .int .i64 p] w fun x w' => x = .returned (resV (Dc.roundP y p)) ∧ Below w.heap.size w w' := by
  have RD := read_some s w hs hL y hy
  have hyn := (Dc.readP_some hy).1.1
  obtain ⟨hcn, hc1, hc2, hc3⟩ := Dc.canon_bound (Dc.readP_some hy).1
  obtain ⟨g, l, e, n, hg, hl, hee, hln, hyy⟩ := num_letters y
  rw [hl, hg, hee, hln] at RD
  rw [hl] at hcn hc1
  rw [hee] at hc2 hc3
  rw [hln] at hc1
  obtain ⟨R, hR⟩ : ∃ R, Dc.roundP y p = R := ⟨_, rfl⟩
  obtain ⟨T, m, hT⟩ := resV_form R
  rw [hR, hT]
  rw [hyy] at hR hyn
  have hR2 := hR
  rw [Dc.roundP] at hR2
  simp only [hln] at hR2
  have RD := Lib.hid RD
  have HL := Lib.hid hL
  have hp1 : ¬ p < -2000 := by omega
  have hp2 : ¬ 2000 < p := by omega
  obtain ⟨hp3, hp4⟩ := hp
  obtain ⟨k, hk⟩ : ∃ k : Int, -p - e = k := ⟨_, rfl⟩
  rw [hk] at hR2
  have hkb : -4000 ≤ k ∧ k ≤ 4000 := by omega
  have HK := Lib.hid hk
  have HT := Lib.hid hT
  have HR2 := Lib.hid hR2
  have HYN := Lib.hid hyn
  have HCN := Lib.hid hcn
  have HLN := Lib.hid hln
  clear hy hl hg hee hyy hR hR2 hL hT hyn hcn hk hln
  go_enter Tryz.func15, Tryz.ntmps15
  go_wp2_with fail
  refine (RD.out).mono ?_
  rintro x w1 ⟨A, rfl, hr1, hb1⟩
  obtain ⟨w2, X, hw2, hX, hb2, hX2, hcells⟩ := box_num g A n n e w1
  have hb12 := hb1.trans (hb2.mono hb1.size)
  have HW2 := Lib.hid hw2
  have HXX := Lib.hid hX
  have HC := Lib.hid hcells
  have hr2 := hr1.on hb2
  have HR := Lib.hid hr2
  have HL2 := Lib.hid (HL.out.on hb12)
  have hd2 : Below w2.heap.size w2 w2 := Below.refl _ _
  obtain ⟨q0, q1, q2, _⟩ := hcells w2 hd2
  clear hw2 hX hr1 hcells
  go_upto_region 2 with fail
  rw [HW2.out, HXX.out]
  by_cases h0 : n = 0 ∨ k ≤ 0
  · have hRe : R = ⟨g, l, e⟩ := by have := HR2.out; rw [if_pos h0] at this; exact this.symm
    have RE := result_any g A n l e w2 hr2 HCN.out (by omega) ⟨by omega, by omega⟩ HL2.out
    rw [← hRe, HT.out] at RE
    have RE := Lib.hid RE
    by_cases h1 : n = 0
    · have hf : ((n : Int) == 0) = true := by simp; exact h1
      clear h0 hRe h1 hr2
      go_wp2_with fail
      try rw [HK.out]
      refine (RE.out).mono ?_
      rintro x w3 ⟨rfl, hb3⟩
      go_wp2_with fail
      go_ret2
      exact ⟨rfl, hb12.trans (hb3.mono hb12.size)⟩
    · have hf : ((n : Int) == 0) = false := by simp; exact h1
      have hk0 : -p - e ≤ 0 := by rw [HK.out]; omega
      clear h0 hRe h1 hr2
      go_wp2_with fail
      refine (RE.out).mono ?_
      rintro x w3 ⟨rfl, hb3⟩
      go_wp2_with fail
      go_ret2
      exact ⟨rfl, hb12.trans (hb3.mono hb12.size)⟩
  · have hR3 := HR2.out
    rw [if_neg h0] at hR3
    have hf : ((n : Int) == 0) = false := by simp; omega
    have hk0 : ¬ -p - e ≤ 0 := by rw [HK.out]; omega
    have hk1 : 1 ≤ k := by omega
    by_cases h1 : (n : Int) - k < 0
    · rw [if_pos h1] at hR3
      have TX := text_any false none 0 [] 0 w2 Reads.none_ (fun x hx => by simp at hx) (by omega) ⟨by omega, by omega⟩ HL2.out
      have hT2 : T = ⟨(Dc.showB ⟨false, [], 0⟩).toArray⟩ ∧ m = 0 := by
        have h := HT.out
        rw [← hR3, resV, if_pos (by decide)] at h
        injection h with h
        have h := Array.mk.inj h
        simp at h
        exact ⟨h.1.symm, by omega⟩
      rw [← hT2.1] at TX
      have TX := Lib.hid TX
      have HM := Lib.hid hT2.2
      have h1i : (n : Int) - (-p - e) < 0 := by rw [HK.out]; exact h1
      clear h0 hR3 hT2 hr2 h1
      go_wp2_with fail
      refine (TX.out).mono ?_
      rintro x w3 ⟨rfl, hb3⟩
      go_wp2_with fail
      go_ret2
      exact ⟨by rw [HM.out]; rfl, hb12.trans (hb3.mono hb12.size)⟩
    · rw [if_neg h1] at hR3
      obtain ⟨N, hN⟩ : ∃ N : Nat, (n : Int) - k = (N : Int) := ⟨((n : Int) - k).toNat, by omega⟩
      rw [hN, Int.toNat_natCast] at hR3
      have h1i : ¬ (n : Int) - (-p - e) < 0 := by rw [HK.out]; exact h1
      have hNi : (n : Int) - (-p - e) = (N : Int) := by rw [HK.out]; exact hN
      have hNn : N < n := by omega
      have hNn2 : (N : Int) ≤ (n : Int) := by omega
      have hN0 : (0 : Int) ≤ (N : Int) := by omega
      have HNI := Lib.hid hNi
      clear h0 h1 hN hNi
      obtain ⟨b, off, hA, hbB, hcl⟩ := hr2.2 (by omega)
      subst hA
      have hrt := hr2.take N (by omega)
      rw [show (u8s l).take N = u8s (l.take N) by simp [u8s, List.map_take]] at hrt
      obtain ⟨V, hV⟩ : ∃ V, u8s (l.take N) = V := ⟨_, rfl⟩
      have hone := u8s_one (l.take N)
      rw [hV] at hrt hone
      have HV := Lib.hid hV
      have HCL := Lib.hid hcl
      have HR3 := Lib.hid hR3
      obtain ⟨i0, hi, hz0, hz1, hz2⟩ := info_parts info5
      clear hcl hV hr2 hR3
      go_upto_region 12 with fail
      rw [HNI.out]
      have hown0 : (w2.alloc (.cells #[.int .u8 0] 5)).ownsRow w2.heap.size 5 1 (.slice (some ⟨w2.heap.size, 0, none⟩) 1 1) 1 [.int .u8 0] :=
        ⟨rfl, Or.inr ⟨w2.heap.size, 1, #[.int .u8 0], rfl, Nat.le_refl _, heap_alloc_new w2 _, Nat.le_refl _, by unfold maxLen; omega, rfl, rfl⟩⟩
      go_cut [10] (fun t wx => ∃ (G c : Nat), t = .slice (some ⟨G, 0, none⟩) (N + 1) c ∧ N + 1 ≤ c ∧ w2.heap.size ≤ G ∧ Row wx G 5 c (u8s (0 :: l.take N)) ∧ Below w2.heap.size w2 wx)
      case first =>
        go_wp2_with (at_builtin; refine wpList_append_any _ rfl _ _ 44 rfl w2.heap.size 5 i0 (.int .u8 0) 1 Tryz.underlying44 hi hz0 hz1 hz2 rfl _ 1 [.int .u8 0] rfl hown0 _ (some ⟨b, off, none⟩) N n V rfl (hrt.alloc (Nat.le_refl _) _) hone ?c3 ?c4 (by simp) ?_)
        case c3 => unfold maxLen; omega
        case c4 => omega
        intro v' w3 hown3 hgr3
        obtain ⟨A', c', rfl, hcc, _⟩ := own_slice hown3
        have hb3 : Below w2.heap.size w2 w3 := ((Below.refl _ _).alloc (Nat.le_refl _) _).grown hgr3 (by simp) (fun k hk => (hown0.lt k hk).1)
        obtain ⟨G, rfl, hG, hrow, _, _⟩ := Row.of_own hown3 (by omega)
        clear hgr3
        go_wp2_with fail
        go_meet
        refine ⟨G, c', by rw [Nat.add_comm 1 N], by omega, hG, ?_, hb3⟩
        rw [← HV.out] at hrow
        exact hrow
      case rest =>
        obtain ⟨G, c, rfl, hNc, hG, hrow, hb3⟩ := hcut
        obtain ⟨w3, hw3⟩ : ∃ W, W = wc := ⟨_, rfl⟩
        subst hw3
        obtain ⟨q0, q1, q2, _⟩ := HC.out _ hb3
        obtain ⟨M, hM⟩ : ∃ M, n - N = M := ⟨_, rfl⟩
        have hM0 : (0 : Int) < (M : Int) := by omega
        obtain ⟨r0, hr0⟩ : ∃ r0, l[N]? = some r0 := ⟨_, List.getElem?_eq_getElem (by rw [HLN.out]; exact hNn)⟩
        have hc0 : w3.cell? ⟨b, off + N, none⟩ = some (.int .u8 (r0 : Int)) := (hb3.cell (p := ⟨b, off + N, none⟩) hbB).trans (HCL.out N _ (u8s_get hr0))
        have hQl : (0 :: l.take N).length = N + 1 := by rw [List.length_cons, List.length_take, HLN.out]; omega
        have hQd : Dc.Digs (0 :: l.take N) := by
          intro x hx
          rcases List.mem_cons.1 hx with rfl | hx
          · omega
          · exact HCN.out x (List.mem_of_mem_take hx)
        obtain ⟨z, hz⟩ : ∃ z, (0 :: l.take N)[N]? = some z := ⟨_, List.getElem?_eq_getElem (by rw [hQl]; omega)⟩
        have hcz := hrow.at_ (u8s_get hz)
        obtain ⟨up, hup⟩ : ∃ up, Dc.goesUp (0 :: l.take N) (l.drop N) = up := ⟨_, rfl⟩
        have hup2 : (decide (5 < r0) || (decide (r0 = 5) && (decide (1 < M) || decide (z % 2 = 1)))) = up := by
          rw [← hup, Dc.goesUp]
          have e1 : (l.drop N).getD 0 0 = r0 := by rw [List.getD_eq_getElem?_getD, List.getElem?_drop, Nat.add_zero, hr0]; rfl
          have e2 : (l.drop N).length = M := by rw [List.length_drop, HLN.out, hM]
          have e3 : (0 :: l.take N).getLastD 0 = z := by
            rw [List.getLastD_eq_getLast?, List.getLast?_eq_getElem?, hQl, Nat.add_sub_cancel, hz]; rfl
          rw [e1, e2, e3]
        obtain ⟨QL, hQL⟩ : ∃ QL, 0 :: l.take N = QL := ⟨_, rfl⟩
        have hR3 := HR3.out
        rw [hup, hQL] at hR3
        rw [hQL] at hrow hQl hQd
        have hQ0 : QL[0]? = some 0 := by rw [← hQL]; rfl
        have HQ0 := Lib.hid hQ0
        have HR4 := Lib.hid hR3
        have HUP := Lib.hid hup2
        have HQL := Lib.hid hQl
        have HQD := Lib.hid hQd
        have HROW := Lib.hid hrow
        have hMw : M = n - N := hM.symm
        have HMM := Lib.hid hM
        obtain ⟨zr, hzr⟩ : ∃ zr, z % 2 = zr := ⟨_, rfl⟩
        have hzi : (z : Int) % 2 = (zr : Int) := by omega
        have hzt : Int.tmod (z : Int) 2 = (zr : Int) := by rw [Int.tmod_eq_emod_of_nonneg (by omega)]; exact hzi
        have HZR := Lib.hid hzr
        clear hM hr0 hQ0 hR3 hup2 hup hz hQl hQd hrow hQL hMw hzr
        go_upto_region 14 with fail
        rw [HMM.out]
        go_cut [12] (fun t wx => t = .bool up ∧ wx = w3)
        case first =>
          by_cases c1 : 5 < r0
          · have c1i : (5 : Int) < (r0 : Int) := by omega
            have hv : up = true := by rw [← HUP.out]; simp [c1]
            have HV2 := Lib.hid hv
            clear hv
            go_wp2_with fail
            go_meet
            exact ⟨by rw [HV2.out], rfl⟩
          · have c1i : ¬ (5 : Int) < (r0 : Int) := by omega
            by_cases c2 : r0 = 5
            · have c2i : ((r0 : Int) == 5) = true := by subst c2; rfl
              by_cases c3 : 1 < M
              · have c3i : (1 : Int) < (M : Int) := by omega
                have hv : up = true := by rw [← HUP.out]; simp [c2, c3]
                have HV2 := Lib.hid hv
                clear hv c2
                go_wp2_with fail
                go_meet
                exact ⟨by rw [HV2.out], rfl⟩
              · have c3i : ¬ (1 : Int) < (M : Int) := by omega
                by_cases c4 : zr = 1
                · have c4i : ((zr : Int) == 1) = true := by subst c4; rfl
                  have hv : up = true := by rw [← HUP.out, HZR.out]; simp [c2, c4]
                  have HV2 := Lib.hid hv
                  clear hv c2 c4
                  go_wp2_with fail
                  go_meet
                  exact ⟨by rw [HV2.out], rfl⟩
                · have c4i : ((zr : Int) == 1) = false := by simp; omega
                  have hv : up = false := by rw [← HUP.out, HZR.out]; simp [c3, c4, c2]
                  have HV2 := Lib.hid hv
                  clear hv c2 c4
                  go_wp2_with fail
                  go_meet
                  exact ⟨by rw [HV2.out], rfl⟩
            · have c2i : ((r0 : Int) == 5) = false := by simp; omega
              have hv : up = false := by rw [← HUP.out]; simp [c1, c2]
              have HV2 := Lib.hid hv
              clear hv c2
              go_wp2_with fail
              go_meet
              exact ⟨by rw [HV2.out], rfl⟩
        case rest =>
          obtain ⟨rfl, hwc⟩ := hcut
          subst hwc
          obtain ⟨w3, hw3⟩ : ∃ W, W = wc := ⟨_, rfl⟩
          subst hw3
          clear hzi hzt hcz hc0 q0 q1 q2
          go_upto_if 88 with fail
          go_cut [12, 13] (fun t12 _ wx => t12 = .bool up ∧ Row wx G 5 c (u8s (if up = true then (Dc.incL QL).1 else QL)) ∧ Below w2.heap.size w2 wx)
          case first =>
            cases hup : up with
            | false =>
              have HUPF := Lib.hid hup
              clear hup
              go_wp2_with fail
              go_meet
              exact ⟨by rw [HUPF.out], by rw [HUPF.out, if_neg (by simp)]; exact HROW.out, hb3⟩
            | true =>
              have HUPF := Lib.hid hup
              clear hup
              go_wp2_with fail
              go_loopg [13] (N + 1) (fun f i wx => ∃ (j mm : Nat), i = .int .i64 (j : Int) ∧ j ≤ N ∧ j < f ∧ j + 1 + mm = N + 1 ∧ QL.drop (j + 1) = List.replicate mm 9 ∧ Row wx G 5 c (u8s (QL.take (j + 1) ++ List.replicate mm 0)) ∧ Below w2.heap.size w2 wx)
              case atStart =>
                refine ⟨N, 0, by go_num, Nat.le_refl _, by omega, by omega, ?_, ?_, hb3⟩
                · rw [List.drop_eq_nil_of_le (by rw [HQL.out]; exact Nat.le_refl _)]; rfl
                · rw [List.take_of_length_le (by rw [HQL.out]; exact Nat.le_refl _)]; simpa using HROW.out
              case round =>
                obtain ⟨j, mm, rfl, hj, hf, hjm, hdr, hrow, hbx⟩ := hrel
                have hj0 : (0 : Int) ≤ (j : Int) := by omega
                have hjN : (j : Int) < (N : Int) + 1 := by omega
                obtain ⟨x, hx⟩ : ∃ x, QL[j]? = some x := ⟨_, List.getElem?_eq_getElem (by rw [HQL.out]; omega)⟩
                have hcur := Dc.inc_cur (L := QL) (i := j) (m := mm) (by rw [HQL.out]; omega) (by rw [HQL.out]; omega)
                have hcx := hrow.at_ (u8s_get (hcur.2.trans hx))
                have hfx := hrow.free j
                have hx10 : x < 10 := HQD.out x (List.mem_of_getElem? hx)
                have hcl2 : j < (u8s (QL.take (j + 1) ++ List.replicate mm 0)).length := by rw [u8s_len, hcur.1, HQL.out]; omega
                have HROWX := Lib.hid hrow
                have HX := Lib.hid hx
                have HDR := Lib.hid hdr
                have HJM := Lib.hid hjm
                have HCL2 := Lib.hid hcl2
                clear hrow hx hcur hdr hjm hcl2
                by_cases h9 : x = 9
                · have h9i : ((x : Int) == 9) = true := by subst h9; rfl
                  have hjp : 0 < j := by
                    rcases Nat.eq_zero_or_pos j with h | h
                    · have h1 := HX.out
                      rw [h, HQ0.out, h9] at h1
                      cases h1
                    · exact h
                  obtain ⟨q, rfl⟩ : ∃ q, j = q + 1 := ⟨j - 1, by omega⟩
                  obtain ⟨f, rfl⟩ : ∃ f, gk = f + 1 := ⟨gk - 1, by omega⟩
                  have H9 := Lib.hid h9
                  clear h9
                  go_wp2_with fail
                  go_roundg f
                  case measure => omega
                  case rel =>
                    obtain ⟨s1, s2⟩ := Dc.inc_step (by have := HX.out; rw [H9.out] at this; exact this) HDR.out
                    have hr' := HROWX.out.set HCL2.out (.int .u8 0)
                    have e0 : (u8s (QL.take (q + 1 + 1) ++ List.replicate mm 0)).set (q + 1) (.int .u8 0) = u8s (QL.take (q + 1) ++ List.replicate (mm + 1) 0) := by
                      rw [← s2, u8s_set']; rfl
                    rw [e0] at hr'
                    have := HJM.out
                    exact ⟨q, mm + 1, by go_num, by omega, by omega, by omega, s1, hr', hbx.setCell (p := ⟨G, q + 1, none⟩) hG _⟩
                · have h9i : ((x : Int) == 9) = false := by simp; omega
                  have hwr : IntKind.u8.wrap ((x : Int) + 1) = (x : Int) + 1 := by rw [IntKind.wrap_u8]; omega
                  have H9 := Lib.hid h9
                  clear h9
                  go_wp2_with fail
                  go_meet
                  have hr' := HROWX.out.set HCL2.out (.int .u8 ((x + 1 : Nat) : Int))
                  rw [← u8s_set', Dc.inc_done HX.out H9.out HDR.out] at hr'
                  refine ⟨by rw [HUPF.out], ?_, hbx.setCell (p := ⟨G, j, none⟩) hG _⟩
                  rw [HUPF.out, if_pos rfl]
                  simpa using hr'
          case rest =>
            obtain ⟨rfl, hrow, hb4⟩ := hcut
            obtain ⟨w4, hw4⟩ : ∃ W, W = wc := ⟨_, rfl⟩
            subst hw4
            obtain ⟨hul, hud⟩ := up_len up QL HQD.out
            obtain ⟨QF, hQF⟩ : ∃ QF, (if up = true then (Dc.incL QL).1 else QL) = QF := ⟨_, rfl⟩
            rw [hQF] at hrow hul hud
            have hR5 := HR4.out
            rw [hQF] at hR5
            rw [HQL.out] at hul
            have hrd := hrow.reads
            rw [u8s_len, hul] at hrd
            have hRn : Dc.Normal R := by rw [← hR5]; exact Dc.norm_normal hud
            have hRl := Dc.norm_len g QF (-p)
            have hRe := Dc.norm_e g QF (-p)
            rw [hR5] at hRl hRe
            rw [hul] at hRl hRe
            obtain ⟨gr, lr, er, nr, hgr, hlr, her, hlnr, hrr⟩ := num_letters R
            have NO : Calls Tryz.prog 31 #[.bool g, .slice (some ⟨G, 0, none⟩) (N + 1) c, .int .i64 (-p)] w4 fun x w' => ∃ A', x = .returned (.agg #[.bool gr, .slice A' nr nr, .int .i64 er]) ∧ Reads w' w'.heap.size A' nr (u8s lr) ∧ Below w4.heap.size w4 w' := by
              refine (norm_any g (some ⟨G, 0, none⟩) (N + 1) c QF (-p) w4 hrd hNc (by omega) (by omega)).mono ?_
              rintro x w' ⟨v, rfl, hv, hb⟩
              rw [hR5] at hv
              obtain ⟨A', rfl, hr'⟩ := hv
              rw [hlr, hlnr] at hr'
              exact ⟨A', by rw [hgr, hlr, hlnr, her], hr', hb⟩
            have NO := Lib.hid NO
            have hdr : Dc.Digs lr := by rw [← hlr]; exact hRn.1
            rw [hlr, hlnr] at hRl
            rw [her] at hRe
            have RE := fun A W hW hLW => result_any gr A nr lr er W hW hdr (by omega) ⟨by omega, by omega⟩ hLW
            rw [← hrr, HT.out] at RE
            have RE := Lib.hid RE
            obtain ⟨q0, q1, q2, _⟩ := HC.out _ hb4
            clear hrow hQF hR5 hul hrd hRn hRl hRe hgr hlr her hlnr hrr hud hdr
            go_wp2_with fail
            refine (NO.out).mono ?_
            rintro x w5 ⟨A', rfl, hr5, hb5⟩
            have hb25 := hb4.trans (hb5.mono hb4.size)
            have HR5 := Lib.hid hr5
            clear hr5
            go_wp2_with fail
            refine (RE.out A' _ HR5.out (HL2.out.on hb25)).mono ?_
            rintro x w6 ⟨rfl, hb6⟩
            go_wp2_with fail
            go_ret2
            exact ⟨rfl, hb12.trans ((hb25.trans (hb6.mono hb25.size)).mono hb12.size)⟩
end Go.Proofs.YtmgafnflkfbckaaGreatDoor
