/- The contracts of compare and Cmp. -/
import Derived.Test.YtmgafnflkfbckaaGreatDoorWalkP
import Derived.Test.YtmgafnflkfbckaaGreatDoorPlain7
namespace Go.Proofs.YtmgafnflkfbckaaGreatDoor
open Go.RowKit Go.Lib

set_option maxHeartbeats 1000000 in
set_option maxRecDepth 100000 in
theorem signum_any (N : Int) (w : World) : Calls Tryz.prog 47 #[.int .i64 N] w fun x w' => x = .returned (.int .i64 (Dc.sg N)) ∧ w' = w := by
  by_cases h1 : N < 0
  · rw [Dc.sg, if_pos h1]
    go_enter Tryz.func47, Tryz.ntmps47
    go_wp2_with fail
    go_ret
    exact ⟨rfl, rfl⟩
  · by_cases h2 : 0 < N
    · rw [Dc.sg, if_neg h1, if_pos h2]
      go_enter Tryz.func47, Tryz.ntmps47
      go_wp2_with fail
      go_ret
      exact ⟨rfl, rfl⟩
    · rw [Dc.sg, if_neg h1, if_neg h2]
      go_enter Tryz.func47, Tryz.ntmps47
      go_wp2_with fail
      go_ret
      exact ⟨rfl, rfl⟩
theorem Dc.sg_range (N : Int) : Dc.sg N = -1 ∨ Dc.sg N = 0 ∨ Dc.sg N = 1 := by
  rw [Dc.sg]; split
  · exact Or.inl rfl
  · split
    · exact Or.inr (Or.inr rfl)
    · exact Or.inr (Or.inl rfl)

set_option maxHeartbeats 1000000 in
set_option maxRecDepth 100000 in
theorem compare_any (g : Bool) (A : Option Addr) (n : Nat) (l : List Nat) (e : Int) (g' : Bool) (A' : Option Addr) (m : Nat) (l' : List Nat) (e' : Int) (w : World)
    (hr : Reads w w.heap.size A n (u8s l)) (hr' : Reads w w.heap.size A' m (u8s l')) (hd : Dc.Digs l) (hd' : Dc.Digs l') (hn : n ≤ 10000) (hm : m ≤ 10000) (he : -10000 ≤ e ∧ e ≤ 10000) (he' : -10000 ≤ e' ∧ e' ≤ 10000) :
    Calls Tryz.prog 24 #[.agg #[.bool g, .slice A n n, .int .i64 e], .agg #[.bool g', .slice A' m m, .int .i64 e']] w fun x w' => x = .returned (.int .i64 (Dc.cmpP ⟨g, l, e⟩ ⟨g', l', e'⟩)) ∧ Below w.heap.size w w' := by
  obtain ⟨w2, X, hw2, hX, hb2, hsz, hX2, hY2⟩ := box_two g A n n e g' A' m m e' w
  obtain ⟨R, hR⟩ : ∃ R, Dc.cmpP ⟨g, l, e⟩ ⟨g', l', e'⟩ = R := ⟨_, rfl⟩
  rw [hR]
  have x0 := at_block hX2 0 _ rfl
  have x1 := at_block hX2 1 _ rfl
  have x2 := at_block hX2 2 _ rfl
  have y0 := at_block hY2 0 _ rfl
  have y1 := at_block hY2 1 _ rfl
  have y2 := at_block hY2 2 _ rfl
  obtain ⟨N, hN⟩ : ∃ N, Dc.magN l e l' e' = N := ⟨_, rfl⟩
  obtain ⟨S, hS⟩ : ∃ S, Dc.sg N = S := ⟨_, rfl⟩
  have hSr : S = -1 ∨ S = 0 ∨ S = 1 := hS ▸ Dc.sg_range N
  have MG := fun W hW hW' => mag_any g A n l e g' A' m l' e' W hW hW' hd hd' (by omega) (by omega) (by omega) (by omega)
  rw [hN] at MG
  have SG := fun W => signum_any N W
  rw [hS] at SG
  have hb2' : Below w.heap.size w w2 := hb2
  have HR0 := hr.on hb2'
  have HR1 := hr'.on hb2'
  rw [Dc.cmpP] at hR
  simp only [hN, hS] at hR
  have MG := Lib.hid MG
  have SG := Lib.hid SG
  have HR := Lib.hid hR
  have HR0 := Lib.hid HR0
  have HR1 := Lib.hid HR1
  have HW2 := Lib.hid hw2
  have HX := Lib.hid hX
  have HSR := Lib.hid hSr
  have HBW := Lib.hid hb2
  have HX2 := Lib.hid hX2
  clear hw2 hX hr hr' hd hd' hN hS hSr hR hX2 hY2 hb2 hb2'
  cases g with
  | true =>
    cases g' with
    | true =>
      have h := HR.out
      simp only [bne_self_eq_false, Bool.false_eq_true, if_false, if_true] at h
      subst h
      have hneg : IntKind.i64.wrap (-S) = -S := IntWalk.i64_in _ (by have := HSR.out; omega)
      go_enter Tryz.func24, Tryz.ntmps24
      go_upto_region 1 with fail
      rw [HW2.out, HX.out]
      go_wp2_with fail
      refine (MG.out _ HR0.out HR1.out).mono ?_
      rintro x w5 ⟨rfl, hb5⟩
      have x5 := at_block ((hb5.block X (by omega)).trans HX2.out) 0 _ rfl
      go_wp2_with fail
      refine (SG.out _).mono ?_
      rintro x w6 ⟨rfl, hw6⟩
      subst hw6
      go_wp2_with fail
      go_ret
      exact ⟨rfl, HBW.out.trans (hb5.mono HBW.out.size)⟩
    | false =>
      have h := HR.out
      simp only [show (((true : Bool) != false) = true) from rfl, if_true] at h
      subst h
      go_enter Tryz.func24, Tryz.ntmps24
      go_upto_region 1 with fail
      rw [HW2.out, HX.out]
      go_wp2_with fail
      go_ret
      exact ⟨rfl, HBW.out⟩
  | false =>
    cases g' with
    | true =>
      have h := HR.out
      simp only [show (((false : Bool) != true) = true) from rfl, Bool.false_eq_true, if_false, if_true] at h
      subst h
      go_enter Tryz.func24, Tryz.ntmps24
      go_upto_region 1 with fail
      rw [HW2.out, HX.out]
      go_wp2_with fail
      go_ret
      exact ⟨rfl, HBW.out⟩
    | false =>
      have h := HR.out
      simp only [bne_self_eq_false, Bool.false_eq_true, if_false] at h
      subst h
      go_enter Tryz.func24, Tryz.ntmps24
      go_upto_region 1 with fail
      rw [HW2.out, HX.out]
      go_wp2_with fail
      refine (MG.out _ HR0.out HR1.out).mono ?_
      rintro x w5 ⟨rfl, hb5⟩
      have x5 := at_block ((hb5.block X (by omega)).trans HX2.out) 0 _ rfl
      go_wp2_with fail
      refine (SG.out _).mono ?_
      rintro x w6 ⟨rfl, hw6⟩
      subst hw6
      go_wp2_with fail
      go_ret
      exact ⟨rfl, HBW.out.trans (hb5.mono HBW.out.size)⟩
/-- What Cmp answers. -/
def Dc.cmpS (a b : List UInt8) : Int := match Dc.readP a, Dc.readP b with
  | some x, some y => Dc.cmpP x y
  | _, _ => 0

set_option maxHeartbeats 1000000 in
set_option maxRecDepth 100000 in
theorem cmp_any (s t : ByteArray) (w : World) (hs : s.size ≤ 536870912) (ht : t.size ≤ 536870912) (hL : Laid w) : Calls Tryz.prog 8 #[.string s, .string t] w fun x w' => x = .returned (.int .i64 (Dc.cmpS s.data.toList t.data.toList)) ∧ Below w.heap.size w w' := by
  have hw4 := hL.2.1
  have HL := Lib.hid hL
  cases hr : Dc.readP s.data.toList with
  | none =>
    have hv : Dc.cmpS s.data.toList t.data.toList = 0 := by rw [Dc.cmpS, hr]
    have RS := Lib.hid (read_none s w hs hL hr)
    obtain ⟨bt, hbt⟩ : ∃ b, (Dc.readP t.data.toList).isSome = b := ⟨_, rfl⟩
    have RT := Lib.hid (fun W hW => read_any2 t W ht hW)
    rw [hbt] at RT
    rw [hv]
    clear hv hr hbt hL
    go_enter Tryz.func8, Tryz.ntmps8
    go_wp2_with fail
    refine (RS.out).mono ?_
    rintro x w7 ⟨⟨g, A, n, e, rfl⟩, hb7⟩
    have hd7 := hb7.alloc hb7.size (.cells #[.bool g, .slice A n n, .int .i64 e] 46)
    go_wp2_with fail
    refine (RT.out _ (HL.out.on hd7)).mono ?_
    rintro x w8 ⟨⟨g', A', n', e', rfl⟩, hb8⟩
    have hd8 := hd7.trans (hb8.mono hd7.size)
    go_wp2_with fail
    go_ret
    exact ⟨rfl, hd8.alloc hd8.size _⟩
  | some x =>
    cases hr' : Dc.readP t.data.toList with
    | none =>
      have hv : Dc.cmpS s.data.toList t.data.toList = 0 := by rw [Dc.cmpS, hr, hr']
      obtain ⟨bs, hbs⟩ : ∃ b, (Dc.readP s.data.toList).isSome = b := ⟨_, rfl⟩
      have hbs1 : bs = true := by rw [← hbs, hr]; rfl
      have RS := Lib.hid (read_any2 s w hs hL)
      rw [hbs, hbs1] at RS
      have RT := Lib.hid (fun W hW => read_none t W ht hW hr')
      rw [hv]
      clear hv hr hr' hbs hbs1 hL
      go_enter Tryz.func8, Tryz.ntmps8
      go_wp2_with fail
      refine (RS.out).mono ?_
      rintro x w7 ⟨⟨g, A, n, e, rfl⟩, hb7⟩
      have hd7 := hb7.alloc hb7.size (.cells #[.bool g, .slice A n n, .int .i64 e] 46)
      go_wp2_with fail
      refine (RT.out _ (HL.out.on hd7)).mono ?_
      rintro x w8 ⟨⟨g', A', n', e', rfl⟩, hb8⟩
      have hd8 := hd7.trans (hb8.mono hd7.size)
      go_wp2_with fail
      go_ret
      exact ⟨rfl, hd8.alloc hd8.size _⟩
    | some y =>
      have hcx := (Dc.readP_some hr).1
      have hcy := (Dc.readP_some hr').1
      obtain ⟨a1, a2, a3, a4⟩ := Dc.canon_bound hcx
      obtain ⟨b1, b2, b3, b4⟩ := Dc.canon_bound hcy
      have RS := read_some s w hs hL x hr
      have RT := (fun W hW => read_some t W ht hW y hr')
      obtain ⟨z, hz⟩ : ∃ z, Dc.cmpP x y = z := ⟨_, rfl⟩
      have hv : Dc.cmpS s.data.toList t.data.toList = z := by rw [Dc.cmpS, hr, hr', ← hz]
      obtain ⟨g, l, e, n, hg, hl, he, hln, hxx⟩ := num_letters x
      obtain ⟨g', l', e', n', hg', hl', he', hln', hyy⟩ := num_letters y
      rw [hl] at a1 a2
      rw [he] at a3 a4
      rw [hl'] at b1 b2
      rw [he'] at b3 b4
      rw [hln] at a2
      rw [hln'] at b2
      have SU : ∀ A A' W, Reads W W.heap.size A n (u8s l) → Reads W W.heap.size A' n' (u8s l') → Calls Tryz.prog 24 #[.agg #[.bool g, .slice A n n, .int .i64 e], .agg #[.bool g', .slice A' n' n', .int .i64 e']] W fun x w' => x = .returned (.int .i64 z) ∧ Below W.heap.size W w' := by
        intro A A' W h1 h2
        have h := compare_any g A n l e g' A' n' l' e' W h1 h2 a1 b1 (by omega) (by omega) (by omega) (by omega)
        rwa [← hxx, ← hyy, hz] at h
      rw [hg, hl, he, hln] at RS
      rw [hg', hl', he', hln'] at RT
      have RS := Lib.hid RS
      have RT := Lib.hid RT
      have SU := Lib.hid SU
      rw [hv]
      clear hv hr hr' hcx hcy a1 a2 a3 a4 b1 b2 b3 b4 hz hg hl he hln hxx hg' hl' he' hln' hyy hL
      go_enter Tryz.func8, Tryz.ntmps8
      go_wp2_with fail
      refine (RS.out).mono ?_
      rintro x1 w7 ⟨A, rfl, hrA, hb7⟩
      obtain ⟨w8, X, hw8, hX, hb78, hX8, hc8⟩ := box_num g A n n e w7
      have hd8 := hb7.trans (hb78.mono hb7.size)
      have HW8 := Lib.hid hw8
      have HX := Lib.hid hX
      have HC8 := Lib.hid hc8
      have HRA := Lib.hid (hrA.on hb78)
      clear hw8 hX hc8 hrA
      go_upto_region 2 with fail
      rw [HW8.out, HX.out]
      go_wp2_with fail
      refine (RT.out _ (HL.out.on hd8)).mono ?_
      rintro x2 w9 ⟨A', rfl, hrB, hb9⟩
      obtain ⟨w10, Y, hw10, hY, hb910, hY10, hc10⟩ := box_num g' A' n' n' e' w9
      have hb810 := hb9.trans (hb910.mono hb9.size)
      have HW10 := Lib.hid hw10
      have HY := Lib.hid hY
      have HRB := Lib.hid (hrB.on hb910)
      obtain ⟨p0, p1, p2, _⟩ := HC8.out w10 hb810
      obtain ⟨q0, q1, q2, _⟩ := hc10 w10 (Below.refl _ _)
      have hd10 := hd8.trans (hb810.mono hd8.size)
      clear hw10 hY hc10 hrB
      go_upto_region 3 with fail
      rw [HW10.out, HY.out]
      go_wp2_with fail
      refine (SU.out _ _ _ (HRA.out.on hb810) HRB.out).mono ?_
      rintro x3 w11 ⟨rfl, hb11⟩
      have hd11 := hd10.trans (hb11.mono hd10.size)
      clear p0 p1 p2 q0 q1 q2
      go_wp2_with fail
      go_ret
      exact ⟨rfl, hd11⟩
end Go.Proofs.YtmgafnflkfbckaaGreatDoor
