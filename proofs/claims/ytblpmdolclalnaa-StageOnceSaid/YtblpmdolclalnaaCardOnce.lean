/- StageOnce: for every input and on every schedule the law returns true without a data race, its arguments read behind the call as before it, every other goroutine having ended or only leaving. No condition. -/
import Derived.Test.YtblpmdolclalnaaQ29
namespace Go.Proofs.Ytblpmdolclalnaa.rowOnce
open Go.ChangeShapes Go.WideShapes Go.ChangeAt Go.RowKit Go.Conc Go.Conc.Lib

theorem params_ok : ∀ t ∈ Try.f8.params.toList, Try.prog.readableRec t = true ∧ t < Try.prog.types.size := by
  have h : (Try.f8.params.toList.all fun t => Try.prog.readableRec t && decide (t < Try.prog.types.size)) = true := by kernel_rfl
  intro t ht
  have := List.all_eq_true.1 h t ht
  simpa using this

set_option maxRecDepth 100000 in
theorem lifted (os : Os) (started : os.Started) (H : Type) (enc : TypeId × Value → H) :
    ReturnsInLeavingWide {} Try.checked os 8 .any (Rows.stageOnceSpec.pre6 enc Try.prog Try.f8 Rows.stageOnceRow.domain false) (Rows.stageOnceSpec.post enc Try.prog Try.f8 false true false false) := by
  refine returnsInLeavingWide_of_change_sized (C := Try.checked) Try.own started Try.func8
    (ChangeSpec.witness6 (enc := enc) (C := Try.checked) false ⟨#[], #[.int .u8 0, .int .u8 0], []⟩ 8 (by kernel_rfl) (by kernel_rfl) (by kernel_rfl) (by kernel_rfl)) ?_
  intro W bs args ds gs before hval0 hW _ _ _
  have hval : ∀ (j : Nat) t v, Try.f8.params[j]? = some t → args[j]? = some v → Value.okWide Try.prog W .any bs t v := hval0
  have hW' := hW
  obtain ⟨p, q, hA9, hV, rfl, _, _⟩ := hW
  have hA : DataW.TrodAll enc Try.prog W 0 (fun _ => true) true Try.f8.params.toList args.toList ds p := hA9
  rw [Try.params8] at hA hval
  obtain ⟨v0, vs0, d0, ds0, p0, q0, hargs, rfl, rfl, h0, r0⟩ := trodAll_cons hA
  obtain ⟨v1, vs1, d1, ds1, p1, q1, rfl, rfl, rfl, h1, r1⟩ := trodAll_cons r0
  obtain ⟨rfl, rfl, rfl⟩ := trodAll_nil r1
  obtain rfl : args = #[v0, v1] := by cases args; simp_all
  obtain ⟨rfl, rfl⟩ := trodVars_none hV
  obtain ⟨a0, rfl, rfl, rfl, wa0⟩ := open_int Try.underlying5 (hval 0 5 v0 rfl rfl) h0
  obtain ⟨a1, rfl, rfl, rfl, wa1⟩ := open_int Try.underlying5 (hval 1 5 v1 rfl rfl) h1
  have e : Frame.enter Try.prog 8 #[.int .u8 a0, .int .u8 a1] .normal = (base 8).at ⟨#[.int .u8 a0, .int .u8 a1, undef, undef, undef, undef, undef, undef, undef, undef, undef, undef, undef, undef, undef, undef, undef, undef, undef, undef, undef, undef, undef, undef, undef, undef, undef, undef, undef, undef, undef, undef, undef, undef, undef, undef, undef, undef, undef, undef, undef, undef, undef, undef, undef, undef, undef, undef, undef, undef, undef, undef, undef, undef, undef, undef, undef, undef, undef, undef, undef, undef, undef, undef, undef, undef, undef, undef, undef, undef, undef, undef, undef, undef, undef, undef, undef], []⟩ [.code body8] := by
    simp [Frame.enter, Frame.at, Try.func8, base, body8, Try.f8]
  obtain ⟨M, last, o, w', t', r1, r2, r3, r4⟩ := law_ends (f := 8) (n := 77) (r := 4) (w := W) (by kernel_rfl) Try.func8 rfl (lawOnce (u8_range wa0) (u8_range wa1))
  rw [← e, ← solo_eq_crowd] at r1 r2
  refine ⟨M, last, o, w', t', r1, r2, r3, r4.mono fun v hP => ?_⟩
  obtain ⟨rfl, hb⟩ := PostL.below hP
  exact post_keep hW' rfl (fun _ _ _ => trodAll_cons_mk (shut_bool Try.underlying4 _) trodAll_mk0) rfl rfl Try.laidOut params_ok hb

theorem said : Rows.StageOnceSaid :=
  OpenClaim.holds_of_wide_leaving 8 Try.f8 rfl rfl rfl rfl rfl rfl rfl ⟨rfl, rfl, rfl, rfl, rfl⟩ rfl rfl rfl rfl rfl (by kernel_rfl) Try.func8 (by kernel_rfl)
    (of_decide_eq_true (by kernel_rfl)) (by unfold Func.isWrapper; first | (rw [if_pos (by decide +kernel)]; kernel_rfl) | (rw [if_neg (by decide +kernel)]; exact ⟨rfl, rfl⟩))
    (fun os started H enc _ => lifted os started H enc)

#print axioms said
end Go.Proofs.Ytblpmdolclalnaa.rowOnce
