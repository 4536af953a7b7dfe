/- StageSplits: for every input and on every schedule the law returns true without a data race, its arguments read behind the call as before it, every other goroutine having ended or only leaving. No condition. -/
import Derived.Test.YtblpmdolclalnaaC29
namespace Go.Proofs.Ytblpmdolclalnaa.rowSplits
open Go.ChangeShapes Go.WideShapes Go.ChangeAt Go.RowKit Go.Conc Go.Conc.Lib

theorem params_ok : ∀ t ∈ Try.f6.params.toList, Try.prog.readableRec t = true ∧ t < Try.prog.types.size := by
  have h : (Try.f6.params.toList.all fun t => Try.prog.readableRec t && decide (t < Try.prog.types.size)) = true := by kernel_rfl
  intro t ht
  have := List.all_eq_true.1 h t ht
  simpa using this

set_option maxRecDepth 100000 in
theorem lifted (os : Os) (started : os.Started) (H : Type) (enc : TypeId × Value → H) :
    ReturnsInLeavingWide {} Try.checked os 6 .any (Rows.stageSplitsSpec.pre6 enc Try.prog Try.f6 Rows.stageSplitsRow.domain false) (Rows.stageSplitsSpec.post enc Try.prog Try.f6 false true false false) := by
  refine returnsInLeavingWide_of_change_sized (C := Try.checked) Try.own started Try.func6
    (ChangeSpec.witness6 (enc := enc) (C := Try.checked) false ⟨#[], #[.slice none 0 0, .slice none 0 0, .int .u8 0], []⟩ 8 (by kernel_rfl) (by kernel_rfl) (by kernel_rfl) (by kernel_rfl)) ?_
  intro W bs args ds gs before hval0 hW _ _ _
  have hval : ∀ (j : Nat) t v, Try.f6.params[j]? = some t → args[j]? = some v → Value.okWide Try.prog W .any bs t v := hval0
  have hW' := hW
  obtain ⟨p, q, hA9, hV, rfl, _, _⟩ := hW
  have hA : DataW.TrodAll enc Try.prog W 0 (fun _ => true) true Try.f6.params.toList args.toList ds p := hA9
  rw [Try.params6] at hA hval
  obtain ⟨v0, vs0, d0, ds0, p0, q0, hargs, rfl, rfl, h0, r0⟩ := trodAll_cons hA
  obtain ⟨v1, vs1, d1, ds1, p1, q1, rfl, rfl, rfl, h1, r1⟩ := trodAll_cons r0
  obtain ⟨v2, vs2, d2, ds2, p2, q2, rfl, rfl, rfl, h2, r2⟩ := trodAll_cons r1
  obtain ⟨rfl, rfl, rfl⟩ := trodAll_nil r2
  obtain rfl : args = #[v0, v1, v2] := by cases args; simp_all
  obtain ⟨rfl, rfl⟩ := trodVars_none hV
  obtain ⟨A0, c0, zs0, rfl, hL0, hA0, hn0⟩ := open_is (hval 0 22 v0 rfl rfl) h0
  obtain ⟨A1, c1, zs1, rfl, hL1, hz1, hn1⟩ := open_bs (hval 1 36 v1 rfl rfl) h1
  obtain ⟨a2, rfl, rfl, rfl, wa2⟩ := open_int Try.underlying5 (hval 2 5 v2 rfl rfl) h2
  have e : Frame.enter Try.prog 6 #[.slice A0 zs0.length c0, .slice A1 zs1.length c1, .int .u8 a2] .normal = (base 6).at ⟨#[.slice A0 zs0.length c0, .slice A1 zs1.length c1, .int .u8 a2, undef, undef, undef, undef, undef, undef, undef, undef, undef, undef, undef, undef, undef, undef, undef, undef, undef, undef, undef, undef, undef, undef, undef, undef, undef, undef, undef, undef, undef, undef, undef, undef, undef, undef, undef, undef, undef, undef, undef, undef, undef, undef, undef, undef, undef, undef, undef, undef, undef, undef, undef, undef, undef, undef, undef, undef, undef, undef, undef, undef, undef, undef, undef, undef, undef, undef, undef, undef, undef, undef, undef, undef, undef, undef, undef, undef, undef, undef, undef, undef, undef, undef, undef, undef, undef, undef, undef, undef, undef, undef, undef, undef, undef, undef, undef, undef, undef, undef, undef, undef, undef, undef, undef, undef, undef, undef, undef, undef, undef, undef, undef, undef, undef, undef, undef, undef, undef, undef, undef, undef, undef, undef, undef, undef], []⟩ [.code body6] := by
    simp [Frame.enter, Frame.at, Try.func6, base, body6, Try.f6]
  obtain ⟨M, last, o, w', t', r1, r2, r3, r4⟩ := law_ends (f := 6) (n := 127) (r := 6) (w := W) (by kernel_rfl) Try.func6 rfl (lawSplits hz1 (u8_range wa2) hL0 hL1 hn0 hn1)
  rw [← e, ← solo_eq_crowd] at r1 r2
  refine ⟨M, last, o, w', t', r1, r2, r3, r4.mono fun v hP => ?_⟩
  obtain ⟨rfl, hb⟩ := PostL.below hP
  exact post_keep hW' rfl (fun _ _ _ => trodAll_cons_mk (shut_bool Try.underlying4 _) trodAll_mk0) rfl rfl Try.laidOut params_ok hb

theorem said : Rows.StageSplitsSaid :=
  OpenClaim.holds_of_wide_leaving 6 Try.f6 rfl rfl rfl rfl rfl rfl rfl ⟨rfl, rfl, rfl, rfl, rfl⟩ rfl rfl rfl rfl rfl (by kernel_rfl) Try.func6 (by kernel_rfl)
    (of_decide_eq_true (by kernel_rfl)) (by unfold Func.isWrapper; first | (rw [if_pos (by decide +kernel)]; kernel_rfl) | (rw [if_neg (by decide +kernel)]; exact ⟨rfl, rfl⟩))
    (fun os started H enc _ => lifted os started H enc)

#print axioms said
end Go.Proofs.Ytblpmdolclalnaa.rowSplits
