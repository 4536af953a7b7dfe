/- The contracts of two (at product) and Mul. -/
import Derived.Test.YtmgafnflkfbckaaGreatDoorWalkAK
import Derived.Test.YtmgafnflkfbckaaGreatDoorWalkAG
namespace Go.Proofs.YtmgafnflkfbckaaGreatDoor
open Go.RowKit Go.Lib

theorem Dc.prodP_bound2 {x y : Dc.D} (hx : Dc.Canon x) (hy : Dc.Canon y) : Dc.Normal (Dc.prodP x y) ∧ (Dc.prodP x y).c.length ≤ 100000 ∧ -100000 ≤ (Dc.prodP x y).e ∧ (Dc.prodP x y).e ≤ 100000 := by
  obtain ⟨a1, a2, a3, a4⟩ := Dc.canon_bound hx
  obtain ⟨b1, b2, b3, b4⟩ := Dc.canon_bound hy
  obtain ⟨h1, h2, h3⟩ := Dc.prodP_bound (x := x) (y := y) (n := 400) (m := 400) (k := 2000) (j := 2000) (by omega) (by omega) ⟨by omega, by omega⟩ ⟨by omega, by omega⟩ (by omega)
  exact ⟨Dc.prodP_normal x y, by omega, by omega, by omega⟩

/-- What Mul answers. -/
def mulV (a b : List UInt8) : Value := match Dc.readP a, Dc.readP b with
  | some x, some y => resV (Dc.prodP x y)
  | _, _ => .tuple #[.string ⟨#[]⟩, .int .i64 3]

set_option maxHeartbeats 1000000 in
set_option maxRecDepth 100000 in
theorem two_prod (s t : ByteArray) (w : World) (hs : s.size ≤ 536870912) (ht : t.size ≤ 536870912) (hL : Laid w) : Calls Tryz.prog 20 #[.string s, .string t, .func (.func 22) #[] #[]] w fun x w' => x = .returned (mulV s.data.toList t.data.toList) ∧ Below w.heap.size w w' := by
  have hw4 := hL.2.1
  have HL := Lib.hid hL
  cases hr : Dc.readP s.data.toList with
  | none =>
    have hv : mulV s.data.toList t.data.toList = .tuple #[.string ⟨#[]⟩, .int .i64 3] := by rw [mulV, hr]
    have RS := Lib.hid (read_none s w hs hL hr)
    obtain ⟨bt, hbt⟩ : ∃ b, (Dc.readP t.data.toList).isSome = b := ⟨_, rfl⟩
    have RT := Lib.hid (fun W hW => read_any2 t W ht hW)
    rw [hbt] at RT
    rw [hv]
    clear hv hr hbt hL
    go_enter Tryz.func20, Tryz.ntmps20
    go_wp2_with fail
    refine (RS.out).mono ?_
    rintro x w7 ⟨⟨g, A, n, e, rfl⟩, hb7⟩
    have hd7 := hb7.alloc hb7.size (.cells #[.bool g, .slice A n n, .int .i64 e] 46)
    go_wp2_with fail
    refine (RT.out _ (HL.out.on hd7)).mono ?_
    rintro x w8 ⟨⟨g', A', n', e', rfl⟩, hb8⟩
    have hd8 := hd7.trans (hb8.mono hd7.size)
    go_wp2_with fail
    go_ret2
    exact ⟨rfl, hd8.alloc hd8.size _⟩
  | some x =>
    cases hr' : Dc.readP t.data.toList with
    | none =>
      have hv : mulV s.data.toList t.data.toList = .tuple #[.string ⟨#[]⟩, .int .i64 3] := by rw [mulV, hr, hr']
      obtain ⟨bs, hbs⟩ : ∃ b, (Dc.readP s.data.toList).isSome = b := ⟨_, rfl⟩
      have hbs1 : bs = true := by rw [← hbs, hr]; rfl
      have RS := Lib.hid (read_any2 s w hs hL)
      rw [hbs, hbs1] at RS
      have RT := Lib.hid (fun W hW => read_none t W ht hW hr')
      rw [hv]
      clear hv hr hr' hbs hbs1 hL
      go_enter Tryz.func20, Tryz.ntmps20
      go_wp2_with fail
      refine (RS.out).mono ?_
      rintro x w7 ⟨⟨g, A, n, e, rfl⟩, hb7⟩
      have hd7 := hb7.alloc hb7.size (.cells #[.bool g, .slice A n n, .int .i64 e] 46)
      go_wp2_with fail
      refine (RT.out _ (HL.out.on hd7)).mono ?_
      rintro x w8 ⟨⟨g', A', n', e', rfl⟩, hb8⟩
      have hd8 := hd7.trans (hb8.mono hd7.size)
      go_wp2_with fail
      go_ret2
      exact ⟨rfl, hd8.alloc hd8.size _⟩
    | some y =>
      have hcx := (Dc.readP_some hr).1
      have hcy := (Dc.readP_some hr').1
      have hbz := Dc.prodP_bound2 hcx hcy
      obtain ⟨a1, a2, a3, a4⟩ := Dc.canon_bound hcx
      obtain ⟨b1, b2, b3, b4⟩ := Dc.canon_bound hcy
      have RS := read_some s w hs hL x hr
      have RT := (fun W hW => read_some t W ht hW y hr')
      obtain ⟨z, hz⟩ : ∃ z, Dc.prodP x y = z := ⟨_, rfl⟩
      obtain ⟨T, m, hT⟩ := resV_form z
      have hv : mulV s.data.toList t.data.toList = .tuple #[.string T, .int .i64 (m : Int)] := by rw [mulV, hr, hr']; simp only [hz, hT]
      obtain ⟨g, l, e, n, hg, hl, he, hln, hxx⟩ := num_letters x
      obtain ⟨g', l', e', n', hg', hl', he', hln', hyy⟩ := num_letters y
      obtain ⟨gz, lz, ez, nz, hgz, hlz, hez, hlnz, hzz⟩ := num_letters z
      rw [hl] at a1 a2
      rw [he] at a3 a4
      rw [hl'] at b1 b2
      rw [he'] at b3 b4
      rw [hln] at a2
      rw [hln'] at b2
      have SU : ∀ A A' W, Reads W W.heap.size A n (u8s l) → Reads W W.heap.size A' n' (u8s l') → Calls Tryz.prog 22 #[.agg #[.bool g, .slice A n n, .int .i64 e], .agg #[.bool g', .slice A' n' n', .int .i64 e']] W fun x w' => ∃ A2, x = .returned (.agg #[.bool gz, .slice A2 nz nz, .int .i64 ez]) ∧ Reads w' w'.heap.size A2 nz (u8s lz) ∧ Below W.heap.size W w' := by
        intro A A' W h1 h2
        refine (product_any g A n l e g' A' n' l' e' W h1 h2 a1 b1 (by omega) (by omega) (by omega) (by omega)).mono ?_
        rintro x' w' ⟨v, rfl, hv', hb'⟩
        rw [← hxx, ← hyy, hz] at hv'
        obtain ⟨A2, rfl, hr2⟩ := hv'
        rw [hlz, hlnz] at hr2
        exact ⟨A2, by rw [hgz, hlz, hlnz, hez], hr2, hb'⟩
      rw [hz, hlz, hez, hlnz] at hbz
      have hdz : Dc.Digs lz := hlz ▸ hbz.1.1
      have RE := Lib.hid (fun A W hW hLW => result_any gz A nz lz ez W hW hdz (by omega) (by omega) hLW)
      rw [← hzz, hT] at RE
      rw [hg, hl, he, hln] at RS
      rw [hg', hl', he', hln'] at RT
      have RS := Lib.hid RS
      have RT := Lib.hid RT
      have SU := Lib.hid SU
      rw [hv]
      clear hv hr hr' hcx hcy hbz a1 a2 a3 a4 b1 b2 b3 b4 hz hT hg hl he hln hxx hg' hl' he' hln' hyy hgz hlz hez hlnz hzz hdz hL
      go_enter Tryz.func20, Tryz.ntmps20
      go_wp2_with fail
      refine (RS.out).mono ?_
      rintro x1 w7 ⟨A, rfl, hrA, hb7⟩
      obtain ⟨w8, X, hw8, hX, hb78, hX8, hc8⟩ := box_num g A n n e w7
      have hd8 := hb7.trans (hb78.mono hb7.size)
      have HW8 := Lib.hid hw8
      have HX := Lib.hid hX
      have HC8 := Lib.hid hc8
      have HRA := Lib.hid (hrA.on hb78)
      clear hw8 hX hc8 hrA
      go_upto_region 2 with fail
      rw [HW8.out, HX.out]
      go_wp2_with fail
      refine (RT.out _ (HL.out.on hd8)).mono ?_
      rintro x2 w9 ⟨A', rfl, hrB, hb9⟩
      obtain ⟨w10, Y, hw10, hY, hb910, hY10, hc10⟩ := box_num g' A' n' n' e' w9
      have hb810 := hb9.trans (hb910.mono hb9.size)
      have HW10 := Lib.hid hw10
      have HY := Lib.hid hY
      have HRB := Lib.hid (hrB.on hb910)
      obtain ⟨p0, p1, p2, _⟩ := HC8.out w10 hb810
      obtain ⟨q0, q1, q2, _⟩ := hc10 w10 (Below.refl _ _)
      have hd10 := hd8.trans (hb810.mono hd8.size)
      clear hw10 hY hc10 hrB
      go_upto_region 3 with fail
      rw [HW10.out, HY.out]
      go_wp2_with fail
      refine (SU.out _ _ _ (HRA.out.on hb810) HRB.out).mono ?_
      rintro x3 w11 ⟨A2, rfl, hr11, hb11⟩
      have hd11 := hd10.trans (hb11.mono hd10.size)
      have HR11 := Lib.hid hr11
      clear hr11 p0 p1 p2 q0 q1 q2
      go_wp2_with fail
      refine (RE.out _ _ HR11.out (HL.out.on hd11)).mono ?_
      rintro x4 w12 ⟨rfl, hb12⟩
      go_wp2_with fail
      go_ret2
      exact ⟨rfl, hd11.trans (hb12.mono hd11.size)⟩

set_option maxHeartbeats 1000000 in
set_option maxRecDepth 100000 in
theorem mul_any (s t : ByteArray) (w : World) (hs : s.size ≤ 536870912) (ht : t.size ≤ 536870912) (hL : Laid w) : Calls Tryz.prog 7 #[.string s, .string t] w fun x w' => x = .returned (mulV s.data.toList t.data.toList) ∧ Below w.heap.size w w' := by
  have TW := Lib.hid (two_prod s t w hs ht hL)
  have hform : ∃ (T : ByteArray) (m : Int), mulV s.data.toList t.data.toList = .tuple #[.string T, .int .i64 m] := by
    unfold mulV
    split
    · obtain ⟨T, m, hT⟩ := resV_form (Dc.prodP _ _)
      exact ⟨T, m, hT⟩
    · exact ⟨_, _, rfl⟩
  obtain ⟨T, m, hT⟩ := hform
  rw [hT] at TW ⊢
  clear hT hL
  go_enter Tryz.func7, Tryz.ntmps7
  go_wp2_with fail
  refine (TW.out).mono ?_
  rintro x w7 ⟨rfl, hb7⟩
  go_wp2_with fail
  go_ret2
  exact ⟨rfl, hb7⟩
theorem mul_2 (s t : ByteArray) (w : World) (hs : s.size ≤ 536870912) (ht : t.size ≤ 536870912) (hL : Laid w) : Calls Tryz.prog 7 #[.string s, .string t] w fun x w' => x = .returned (val2 (Dc.mulS s.data.toList t.data.toList)) ∧ Below w.heap.size w w' := by
  refine (mul_any s t w hs ht hL).mono ?_
  rintro x w' ⟨rfl, hb⟩
  refine ⟨?_, hb⟩
  rw [mulV, Dc.mulS]
  cases Dc.readP s.data.toList with
  | none => rfl
  | some y =>
    cases Dc.readP t.data.toList with
    | none => rfl
    | some z => exact congrArg Ending.returned (resV_2 _)
end Go.Proofs.YtmgafnflkfbckaaGreatDoor
