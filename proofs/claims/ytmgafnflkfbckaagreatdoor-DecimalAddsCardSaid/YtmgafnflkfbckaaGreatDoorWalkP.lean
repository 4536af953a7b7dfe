/- The contracts of two (at sum) and Add. -/
import Derived.Test.YtmgafnflkfbckaaGreatDoorWalkM
namespace Go.Proofs.YtmgafnflkfbckaaGreatDoor
open Go.RowKit Go.Lib

namespace Dc
theorem sumO_bound {g g' : Bool} {l l' : List Nat} {e e' : Int} (hd : Digs l) (hd' : Digs l') (hl : l.length ≤ 10000) (hl' : l'.length ≤ 10000) (he : -10000 ≤ e ∧ e ≤ 10000) (he' : -10000 ≤ e' ∧ e' ≤ 10000) :
    Normal (sumO g l e g' l' e') ∧ (sumO g l e g' l' e').c.length ≤ 100000 ∧ -100000 ≤ (sumO g l e g' l' e').e ∧ (sumO g l e g' l' e').e ≤ 100000 := by
  obtain ⟨N, hN⟩ : ∃ N, (max ((l.length : Int) + e) ((l'.length : Int) + e') - min e e' + 1).toNat = N := ⟨_, rfl⟩
  have hNb : N ≤ 50000 := by omega
  obtain ⟨E, hE⟩ : ∃ E, min e e' = E := ⟨_, rfl⟩
  have hEb : -10000 ≤ E ∧ E ≤ 10000 := by omega
  have h1 : (al l (e - E).toNat N).length = N := al_len (by
    by_cases h : l = []
    · exact Or.inl h
    · right; omega)
  have h2 : (al l' (e' - E).toNat N).length = N := al_len (by
    by_cases h : l' = []
    · exact Or.inl h
    · right; omega)
  obtain ⟨_, h4, h5⟩ := addL_ok (same := (g == g')) (al_digs (k := (e - E).toNat) (n := N) hd) (al_digs (k := (e' - E).toNat) (n := N) hd') (by rw [h1, h2])
  rw [sumO, hE]
  rw [hE] at hN
  rw [hN]
  have h6 := norm_len g (addL (g == g') (al l (e - E).toNat N) (al l' (e' - E).toNat N)).1 E
  have h7 := norm_e g (addL (g == g') (al l (e - E).toNat N) (al l' (e' - E).toNat N)).1 E
  rw [h5, h1] at h6 h7
  exact ⟨norm_normal h4, by omega, by omega, by omega⟩
theorem canon_bound {x : D} (h : Canon x) : Digs x.c ∧ x.c.length ≤ 400 ∧ -2000 ≤ x.e ∧ x.e ≤ 2000 := by
  obtain ⟨a, b, c⟩ := limit_ok.1 h.2
  exact ⟨h.1.1, a, b, c⟩
theorem sumP_bound {x y : D} (hx : Canon x) (hy : Canon y) : Normal (sumP x y) ∧ (sumP x y).c.length ≤ 100000 ∧ -100000 ≤ (sumP x y).e ∧ (sumP x y).e ≤ 100000 := by
  obtain ⟨a1, a2, a3, a4⟩ := canon_bound hx
  obtain ⟨b1, b2, b3, b4⟩ := canon_bound hy
  rw [sumP]
  split
  · exact ⟨hy.1, by omega, by omega, by omega⟩
  · split
    · exact ⟨hx.1, by omega, by omega, by omega⟩
    · split
      · exact sumO_bound b1 a1 (by omega) (by omega) (by omega) (by omega)
      · exact sumO_bound a1 b1 (by omega) (by omega) (by omega) (by omega)
end Dc

/-- What Add answers. -/
def addV (a b : List UInt8) : Value := match Dc.readP a, Dc.readP b with
  | some x, some y => resV (Dc.sumP x y)
  | _, _ => .tuple #[.string ⟨#[]⟩, .int .i64 3]

/-- read, whatever it answers, in letters. -/
theorem read_any2 (s : ByteArray) (w : World) (hs : s.size ≤ 536870912) (hL : Laid w) : Calls Tryz.prog 23 #[.string s] w fun x w' => (∃ g A n e, x = .returned (.tuple #[.agg #[.bool g, .slice A n n, .int .i64 e], .bool (Dc.readP s.data.toList).isSome])) ∧ Below w.heap.size w w' := by
  refine (read_any s w hs hL).mono ?_
  rintro x w' ⟨⟨g, A, n, e, rfl, _⟩, hb⟩
  exact ⟨⟨g, A, n, e, rfl⟩, hb⟩

set_option maxHeartbeats 1000000 in
set_option maxRecDepth 100000 in
theorem two_sum (s t : ByteArray) (w : World) (hs : s.size ≤ 536870912) (ht : t.size ≤ 536870912) (hL : Laid w) : Calls Tryz.prog 20 #[.string s, .string t, .func (.func 21) #[] #[]] w fun x w' => x = .returned (addV s.data.toList t.data.toList) ∧ Below w.heap.size w w' := by
  have hw4 := hL.2.1
  have HL := Lib.hid hL
  cases hr : Dc.readP s.data.toList with
  | none =>
    have hv : addV s.data.toList t.data.toList = .tuple #[.string ⟨#[]⟩, .int .i64 3] := by rw [addV, hr]
    have RS := Lib.hid (read_none s w hs hL hr)
    obtain ⟨bt, hbt⟩ : ∃ b, (Dc.readP t.data.toList).isSome = b := ⟨_, rfl⟩
    have RT := Lib.hid (fun W hW => read_any2 t W ht hW)
    rw [hbt] at RT
    rw [hv]
    clear hv hr hbt hL
    go_enter Tryz.func20, Tryz.ntmps20
    go_wp2_with fail
    refine (RS.out).mono ?_
    rintro x w7 ⟨⟨g, A, n, e, rfl⟩, hb7⟩
    have hd7 := hb7.alloc hb7.size (.cells #[.bool g, .slice A n n, .int .i64 e] 46)
    go_wp2_with fail
    refine (RT.out _ (HL.out.on hd7)).mono ?_
    rintro x w8 ⟨⟨g', A', n', e', rfl⟩, hb8⟩
    have hd8 := hd7.trans (hb8.mono hd7.size)
    go_wp2_with fail
    go_ret2
    exact ⟨rfl, hd8.alloc hd8.size _⟩
  | some x =>
    cases hr' : Dc.readP t.data.toList with
    | none =>
      have hv : addV s.data.toList t.data.toList = .tuple #[.string ⟨#[]⟩, .int .i64 3] := by rw [addV, hr, hr']
      obtain ⟨bs, hbs⟩ : ∃ b, (Dc.readP s.data.toList).isSome = b := ⟨_, rfl⟩
      have hbs1 : bs = true := by rw [← hbs, hr]; rfl
      have RS := Lib.hid (read_any2 s w hs hL)
      rw [hbs, hbs1] at RS
      have RT := Lib.hid (fun W hW => read_none t W ht hW hr')
      rw [hv]
      clear hv hr hr' hbs hbs1 hL
      go_enter Tryz.func20, Tryz.ntmps20
      go_wp2_with fail
      refine (RS.out).mono ?_
      rintro x w7 ⟨⟨g, A, n, e, rfl⟩, hb7⟩
      have hd7 := hb7.alloc hb7.size (.cells #[.bool g, .slice A n n, .int .i64 e] 46)
      go_wp2_with fail
      refine (RT.out _ (HL.out.on hd7)).mono ?_
      rintro x w8 ⟨⟨g', A', n', e', rfl⟩, hb8⟩
      have hd8 := hd7.trans (hb8.mono hd7.size)
      go_wp2_with fail
      go_ret2
      exact ⟨rfl, hd8.alloc hd8.size _⟩
    | some y =>
      have hcx := (Dc.readP_some hr).1
      have hcy := (Dc.readP_some hr').1
      have hbz := Dc.sumP_bound hcx hcy
      obtain ⟨a1, a2, a3, a4⟩ := Dc.canon_bound hcx
      obtain ⟨b1, b2, b3, b4⟩ := Dc.canon_bound hcy
      have RS := read_some s w hs hL x hr
      have RT := (fun W hW => read_some t W ht hW y hr')
      obtain ⟨z, hz⟩ : ∃ z, Dc.sumP x y = z := ⟨_, rfl⟩
      obtain ⟨T, m, hT⟩ := resV_form z
      have hv : addV s.data.toList t.data.toList = .tuple #[.string T, .int .i64 (m : Int)] := by rw [addV, hr, hr']; simp only [hz, hT]
      obtain ⟨g, l, e, n, hg, hl, he, hln, hxx⟩ := num_letters x
      obtain ⟨g', l', e', n', hg', hl', he', hln', hyy⟩ := num_letters y
      obtain ⟨gz, lz, ez, nz, hgz, hlz, hez, hlnz, hzz⟩ := num_letters z
      rw [hl] at a1 a2
      rw [he] at a3 a4
      rw [hl'] at b1 b2
      rw [he'] at b3 b4
      rw [hln] at a2
      rw [hln'] at b2
      have SU : ∀ A A' W, Reads W W.heap.size A n (u8s l) → Reads W W.heap.size A' n' (u8s l') → Calls Tryz.prog 21 #[.agg #[.bool g, .slice A n n, .int .i64 e], .agg #[.bool g', .slice A' n' n', .int .i64 e']] W fun x w' => ∃ A2, x = .returned (.agg #[.bool gz, .slice A2 nz nz, .int .i64 ez]) ∧ Reads w' w'.heap.size A2 nz (u8s lz) ∧ Below W.heap.size W w' := by
        intro A A' W h1 h2
        refine (sum_any g A n l e g' A' n' l' e' W h1 h2 a1 b1 (by omega) (by omega) (by omega) (by omega)).mono ?_
        rintro x' w' ⟨v, rfl, hv', hb'⟩
        rw [← hxx, ← hyy, hz] at hv'
        obtain ⟨A2, rfl, hr2⟩ := hv'
        rw [hlz, hlnz] at hr2
        exact ⟨A2, by rw [hgz, hlz, hlnz, hez], hr2, hb'⟩
      rw [hz, hlz, hez, hlnz] at hbz
      have hdz : Dc.Digs lz := hlz ▸ hbz.1.1
      have RE := Lib.hid (fun A W hW hLW => result_any gz A nz lz ez W hW hdz (by omega) (by omega) hLW)
      rw [← hzz, hT] at RE
      rw [hg, hl, he, hln] at RS
      rw [hg', hl', he', hln'] at RT
      have RS := Lib.hid RS
      have RT := Lib.hid RT
      have SU := Lib.hid SU
      rw [hv]
      clear hv hr hr' hcx hcy hbz a1 a2 a3 a4 b1 b2 b3 b4 hz hT hg hl he hln hxx hg' hl' he' hln' hyy hgz hlz hez hlnz hzz hdz hL
      go_enter Tryz.func20, Tryz.ntmps20
      go_wp2_with fail
      refine (RS.out).mono ?_
      rintro x1 w7 ⟨A, rfl, hrA, hb7⟩
      obtain ⟨w8, X, hw8, hX, hb78, hX8, hc8⟩ := box_num g A n n e w7
      have hd8 := hb7.trans (hb78.mono hb7.size)
      have HW8 := Lib.hid hw8
      have HX := Lib.hid hX
      have HC8 := Lib.hid hc8
      have HRA := Lib.hid (hrA.on hb78)
      clear hw8 hX hc8 hrA
      go_upto_region 2 with fail
      rw [HW8.out, HX.out]
      go_wp2_with fail
      refine (RT.out _ (HL.out.on hd8)).mono ?_
      rintro x2 w9 ⟨A', rfl, hrB, hb9⟩
      obtain ⟨w10, Y, hw10, hY, hb910, hY10, hc10⟩ := box_num g' A' n' n' e' w9
      have hb810 := hb9.trans (hb910.mono hb9.size)
      have HW10 := Lib.hid hw10
      have HY := Lib.hid hY
      have HRB := Lib.hid (hrB.on hb910)
      obtain ⟨p0, p1, p2, _⟩ := HC8.out w10 hb810
      obtain ⟨q0, q1, q2, _⟩ := hc10 w10 (Below.refl _ _)
      have hd10 := hd8.trans (hb810.mono hd8.size)
      clear hw10 hY hc10 hrB
      go_upto_region 3 with fail
      rw [HW10.out, HY.out]
      go_wp2_with fail
      refine (SU.out _ _ _ (HRA.out.on hb810) HRB.out).mono ?_
      rintro x3 w11 ⟨A2, rfl, hr11, hb11⟩
      have hd11 := hd10.trans (hb11.mono hd10.size)
      have HR11 := Lib.hid hr11
      clear hr11 p0 p1 p2 q0 q1 q2
      go_wp2_with fail
      refine (RE.out _ _ HR11.out (HL.out.on hd11)).mono ?_
      rintro x4 w12 ⟨rfl, hb12⟩
      go_wp2_with fail
      go_ret2
      exact ⟨rfl, hd11.trans (hb12.mono hd11.size)⟩

set_option maxHeartbeats 1000000 in
set_option maxRecDepth 100000 in
theorem add_any (s t : ByteArray) (w : World) (hs : s.size ≤ 536870912) (ht : t.size ≤ 536870912) (hL : Laid w) : Calls Tryz.prog 6 #[.string s, .string t] w fun x w' => x = .returned (addV s.data.toList t.data.toList) ∧ Below w.heap.size w w' := by
  have TW := Lib.hid (two_sum s t w hs ht hL)
  have hform : ∃ (T : ByteArray) (m : Int), addV s.data.toList t.data.toList = .tuple #[.string T, .int .i64 m] := by
    unfold addV
    split
    · obtain ⟨T, m, hT⟩ := resV_form (Dc.sumP _ _)
      exact ⟨T, m, hT⟩
    · exact ⟨_, _, rfl⟩
  obtain ⟨T, m, hT⟩ := hform
  rw [hT] at TW ⊢
  clear hT hL
  go_enter Tryz.func6, Tryz.ntmps6
  go_wp2_with fail
  refine (TW.out).mono ?_
  rintro x w7 ⟨rfl, hb7⟩
  go_wp2_with fail
  go_ret2
  exact ⟨rfl, hb7⟩
end Go.Proofs.YtmgafnflkfbckaaGreatDoor
