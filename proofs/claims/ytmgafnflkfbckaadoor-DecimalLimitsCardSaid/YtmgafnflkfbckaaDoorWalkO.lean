/- The contract of Of. -/
import Derived.Test.YtmgafnflkfbckaaDoorWalkJ
namespace Go.Proofs.YtmgafnflkfbckaaDoor
open Go.RowKit Go.Lib

/-- The exponent that Of takes. -/
def clampE (e : Int) : Int := if e < -1099511627776 then -1099511627776 else if 1099511627776 < e then 1099511627776 else e
/-- What Of answers. -/
def ofV (l : List UInt8) (e : Int) : Value := if Dc.intB l = true then resV (Dc.norm (l.head? == some 45) (Dc.vals (Dc.unsign l)) (clampE e)) else .tuple #[.string ⟨#[]⟩, .int .i64 3]
set_option maxHeartbeats 1000000 in
set_option maxRecDepth 100000 in
theorem of_any (s : ByteArray) (e : Int) (w : World) (hs : s.size ≤ 1048576) (he : -9223372036854775808 ≤ e ∧ e ≤ 9223372036854775807) (hL : Laid w) : Calls Tryd.prog 15 #[.string s, .int .i64 e] w fun x w' => x = .returned (ofV s.data.toList e) ∧ Below w.heap.size w w' := by
  obtain ⟨b, hb⟩ : ∃ b, Dc.intB s.data.toList = b := ⟨_, rfl⟩
  have IV := Lib.hid (intvalid_any s w (by omega))
  rw [hb] at IV
  cases b with
  | false =>
    have hv : ofV s.data.toList e = .tuple #[.string ⟨#[]⟩, .int .i64 3] := by rw [ofV, if_neg (by rw [hb]; simp)]
    rw [hv]
    clear hb hv
    go_enter Tryd.func15, Tryd.ntmps15
    go_wp2_with fail
    refine (IV.out).mono ?_
    rintro x w7 ⟨rfl, hb7⟩
    go_wp2_with fail
    go_ret2
    exact ⟨rfl, hb7⟩
  | true =>
    obtain ⟨E, hE⟩ : ∃ E, clampE e = E := ⟨_, rfl⟩
    have hEb : -1099511627776 ≤ E ∧ E ≤ 1099511627776 := by
      rw [← hE, clampE]
      split
      · omega
      · split <;> omega
    obtain ⟨C, hC⟩ : ∃ C : ByteArray, ⟨(Lib.trimPrefix s.data.toList [45]).toArray⟩ = C := ⟨_, rfl⟩
    have hCd : C.data.toList = Dc.unsign s.data.toList := by rw [← hC]; simp [Dc.trim_unsign]
    have TP := Lib.hid (fun W => Tryd.strings_TrimPrefix s ⟨#[45]⟩ W)
    have h45l : (ByteArray.mk #[45]).data.toList = [45] := rfl
    rw [h45l, hC] at TP
    have hCs : C.size ≤ s.size := by rw [← data_len, hCd, ← data_len]; exact Dc.unsign_len _
    have hCall : C.data.toList.all Dc.isDig = true := by rw [hCd]; exact Dc.intB_all hb
    have BY := Lib.hid (fun W => bytes_any C W hCall (by omega))
    have hdg : Dc.Digs (Dc.vals C.data.toList) := Dc.vals_digs hCall
    have hvl : (Dc.vals C.data.toList).length = C.size := by rw [Dc.vals, List.length_map, data_len]
    obtain ⟨gn, hgn⟩ : ∃ gn, (s.data.toList.head? == some 45) = gn := ⟨_, rfl⟩
    obtain ⟨y, hy⟩ : ∃ y, Dc.norm gn (Dc.vals C.data.toList) E = y := ⟨_, rfl⟩
    have hyn : Dc.Normal y := by rw [← hy]; exact Dc.norm_normal hdg
    have hyl : y.c.length ≤ C.size := by rw [← hy, ← hvl]; exact Dc.norm_len _ _ _
    have hye : -4611686018427387904 ≤ y.e ∧ y.e ≤ 4611686018427387904 := by
      have := Dc.norm_e gn (Dc.vals C.data.toList) E
      rw [hy, hvl] at this
      omega
    have NO := Lib.hid (fun A W hW => norm_any gn A C.size C.size (Dc.vals C.data.toList) E W hW (Nat.le_refl _) (by omega) (by omega))
    rw [hy] at NO
    obtain ⟨g, l, ye, n, hg, hl, hye', hln, hyy⟩ := num_letters y
    obtain ⟨T, m, hT⟩ := resV_form y
    have hv : ofV s.data.toList e = .tuple #[.string T, .int .i64 (m : Int)] := by rw [ofV, if_pos hb, hE, hgn, ← hCd, hy, hT]
    rw [hv]
    rw [hl] at hyl
    rw [hye'] at hye
    rw [hln] at hyl
    have hdl : Dc.Digs l := hl ▸ hyn.1
    have RE := Lib.hid (fun A W hW hLW => result_any g A n l ye W hW hdl (by omega) hye hLW)
    rw [← hyy, hT] at RE
    have NO2 : ∀ A W, Reads W W.heap.size A C.size (u8s (Dc.vals C.data.toList)) → Calls Tryd.prog 48 #[.bool gn, .slice A C.size C.size, .int .i64 E] W fun x w' => ∃ A', x = .returned (.agg #[.bool g, .slice A' n n, .int .i64 ye]) ∧ Reads w' w'.heap.size A' n (u8s l) ∧ Below W.heap.size W w' := by
      intro A W hW
      refine (NO.out A W hW).mono ?_
      rintro x w' ⟨v, rfl, ⟨A', rfl, hr⟩, hb'⟩
      rw [hl, hln] at hr
      exact ⟨A', by rw [hg, hl, hln, hye'], hr, hb'⟩
    have NO2 := Lib.hid NO2
    have hne : 0 < s.size := by
      have h1 : s.data.toList ≠ [] := by intro h; rw [h] at hb; exact absurd hb (by decide)
      rw [← data_len]; exact List.length_pos_iff.2 h1
    have hpos : (0 : Int) < (s.size : Int) := by omega
    obtain ⟨d, hd⟩ : ∃ d : UInt8, s[0]'hne = d := ⟨_, rfl⟩
    have hd45 : ((d.toNat : Int) == 45) = gn := by
      rw [← hgn, head_at (byte_at hne hd)]
      by_cases h : d = 45
      · subst h; rfl
      · rw [byte_ne (c := 45) (n := 45) rfl h]; simp [h]
    have HE := Lib.hid hE
    have HL := Lib.hid hL
    clear hb hv hC hCd hCall hdg hvl hgn hy hyn hye' hg hl hln hyy hT hdl NO hE hL h45l
    go_enter Tryd.func15, Tryd.ntmps15
    go_wp2_with fail
    refine (IV.out).mono ?_
    rintro x w7 ⟨rfl, hb7⟩
    go_upto_region 3 with fail
    go_cut [1] (fun a wx => a = .int .i64 E ∧ wx = w7)
    case first =>
      go_wp2_with fail
      go_meet
      refine ⟨congrArg (Value.int .i64) ?_, rfl⟩
      have := HE.out
      rw [clampE] at this
      split at this
      · omega
      · split at this <;> omega
    case rest =>
      obtain ⟨rfl, hwc⟩ := hcut
      subst hwc
      obtain ⟨w8, hw8⟩ : ∃ W, W = wc := ⟨_, rfl⟩
      subst hw8
      go_upto_region 4 with fail
      go_region_held3 (fun W => Below w8.heap.size w8 W)
        (first | assumption | exact (Below.refl _ _).drew | exact b_drew (by assumption))
        (first | (with_reducible refine (TP.out _).mono ?_; rintro x w9 ⟨rfl, hw9⟩; subst hw9) | (with_reducible refine (BY.out _).mono ?_; rintro x w10 ⟨Gb, rfl, hRb, hb10⟩; have hS10 := b_trans (a := w8) (by assumption) hb10) | (with_reducible refine (NO2.out _ _ hRb).mono ?_; rintro x w11 ⟨A', rfl, hRn, hb11⟩; have hS11 := b_trans (a := w8) (by assumption) hb11) | (with_reducible refine (RE.out _ _ hRn ((HL.out.on hb7).on hS11)).mono ?_; rintro x w12 ⟨rfl, hb12⟩; have hS12 := b_trans (a := w8) (by assumption) hb12))
      all_goals
        go_wp2_with fail
        go_ret2
        exact ⟨rfl, hb7.trans (hS12.mono hb7.size)⟩
end Go.Proofs.YtmgafnflkfbckaaDoor
