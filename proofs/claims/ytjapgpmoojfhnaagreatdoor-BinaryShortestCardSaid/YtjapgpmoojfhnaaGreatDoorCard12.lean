/- BinaryShortest: for every input the law returns true, its arguments read behind the call as before it (the row; the card ties the variables of the library and of the program that it lists). No condition. The row lists variables as their initialisers lay them. -/
import Derived.Test.YtjapgpmoojfhnaaGreatDoorB24
import Derived.Test.YtjapgpmoojfhnaaGreatDoorRow2
namespace Go.Proofs.YtjapgpmoojfhnaaGreatDoor.lawShortest
open Go.ChangeShapes Go.WideShapes Go.ChangeAt Go.RowKit Go.Lib
open Go.ChangeMaps (open_string)

theorem params_ok : ∀ t ∈ Tryz.f12.params.toList, Tryz.prog.readableRec t = true ∧ t < Tryz.prog.types.size := by
  have h : (Tryz.f12.params.toList.all fun t => Tryz.prog.readableRec t && decide (t < Tryz.prog.types.size)) = true := by kernel_rfl
  intro t ht
  have := List.all_eq_true.1 h t ht
  simpa using this

set_option maxRecDepth 100000 in
theorem contract (H : Type) (enc : TypeId × Value → H) (W : World) (base : Nat) (args : Array Value) (ds gs : List (DataW H)) (before : List MemPlace)
    (hval : ∀ (j : Nat) t v, Tryz.f12.params[j]? = some t → args[j]? = some v → Value.okWide Tryz.prog W .any base t v)
    (hW : DataW.Whole enc Tryz.prog Tryz.f12.params.toList Rows.binaryShortestSpec.vars false W args.toList ds gs before) (hL : laidMetH Tryz.prog laidL2 W) (hS : W.ShapedOpen Tryz.prog) :
    Calls Tryz.prog 12 args W fun e W' => ∃ v, e = .returned v ∧ Rows.binaryShortestSpec.post enc Tryz.prog Tryz.f12 false true false false W args v W' := by
  have hW' := hW
  obtain ⟨p, q, hA0, hV, rfl, hfz, hnd⟩ := hW
  have hA : DataW.TrodAll enc Tryz.prog W 0 (fun _ => true) true Tryz.f12.params.toList args.toList ds p := hA0
  rw [Tryz.params12] at hA hval
  obtain ⟨v0, vs0, d0, ds0, p0, q0, hargs, rfl, rfl, h0, r0⟩ := trodAll_cons hA
  obtain ⟨rfl, rfl, rfl⟩ := trodAll_nil r0
  obtain rfl : args = #[v0] := by cases args; simp_all
  obtain ⟨rfl, rfl⟩ := trodVars_none hV
  obtain ⟨n0, rfl, rfl, rfl, wa0⟩ := open_int Tryz.underlying22 (hval 0 22 v0 rfl rfl) h0
  obtain ⟨a0, rfl, wb0⟩ := u64_wf wa0
  obtain ⟨B, hB⟩ := laid2_of hL hS
  refine (law12 a0 wb0 W B hB).mono fun e W' ⟨he, hb⟩ => ?_
  subst he
  exact ⟨_, rfl, post_keep hW' rfl (fun _ _ _ => trodAll_cons_mk (shut_bool Tryz.underlying4 _) trodAll_mk0) rfl rfl laidOut params_ok hb⟩

set_option maxRecDepth 100000 in
theorem reads (os : Os) {H : Type} (enc : TypeId × Value → H) : ∃ places, DataW.whole enc Tryz.prog ((laidWorld2 os).forCall (fun _ _ => 0) ⟨#[], #[.int .u64 0], []⟩).memory Tryz.f12.params.toList Rows.binaryShortestSpec.vars false (#[.int .u64 0] : Array Value).toList 8 = some ([.lit (.int .u64 0)], [], places) :=
  ⟨[], by kernel_rfl⟩

set_option maxRecDepth 100000 in
theorem lifted (os : Os) (started : os.Started) (H : Type) (enc : TypeId × Value → H) (F : Stop.Interp) :
    ReturnsInHanded {} Tryz.checked os 12 .any ((OpenSpec.ofChange Rows.binaryShortestSpec).preRow enc Tryz.prog Tryz.f12 Rows.binaryShortestRow.domain false Rows.binaryShortestRow.laid) (((OpenSpec.ofChange Rows.binaryShortestSpec).at F).post enc Tryz.prog Tryz.f12 false true false false) := by
  obtain ⟨places, hx⟩ := reads os enc
  refine returnsInHanded_of_row (C := Tryz.checked) (s := OpenSpec.ofChange Rows.binaryShortestSpec) own started (by kernel_rfl) Tryz.func12
    (witness_zip2 (enc := enc) #[.int .u64 0] (by kernel_rfl)
      (OpenSpec.preRow_of_cond 8 hx (by kernel_rfl) (fun k hk => by cases hk) (by kernel_rfl) (laid_met2 os _))) ?_
  intro W base args ds gs before hval hW _ _ _ hL hS _
  exact contract H enc W base args ds gs before hval hW hL hS

theorem t_wf : Rows.binaryShortestRow.wf (OpenSpec.ofChange (OpenSpec.ofChange Rows.binaryShortestSpec).bare) = true := by kernel_rfl
theorem t_place : (Rows.binaryShortestRow.inPlace == Tryz.prog.inPlace 12) = true := by kernel_rfl
theorem t_unf : (Rows.binaryShortestRow.unfollowed == Tryz.prog.unfollowed 12) = true := by kernel_rfl
theorem t_rec : (Rows.binaryShortestRow.recurses == Tryz.prog.recurses 12) = true := by kernel_rfl
theorem t_named : (Rows.binaryShortestRow.named == Tryz.prog.varsNamed 12) = true := by kernel_rfl
theorem t_rowed : mapsRowed Tryz.prog = true := by kernel_rfl
theorem t_closed : joinedFacts Tryz.prog 12 Tryz.f12 (OpenSpec.ofChange Rows.binaryShortestSpec).bare Rows.binaryShortestRow = true := by
  unfold joinedFacts
  rw [t_wf, t_place, t_unf, t_rec, t_named, t_rowed, laidOut]
  kernel_rfl
theorem t_func : Tryz.prog.funcNamed Rows.binaryShortestRow.func = some 12 := by kernel_rfl
theorem t_inst : Tryz.f12.isInstance Tryz.prog Rows.binaryShortestRow.origin Rows.binaryShortestRow.targs := of_decide_eq_true (by kernel_rfl)
theorem t_wrap : Tryz.f12.isWrapper Tryz.prog Rows.binaryShortestRow.wrapper Rows.binaryShortestRow.mainSum := by
  unfold Func.isWrapper; first | (rw [if_pos (by decide +kernel)]; kernel_rfl) | (rw [if_neg (by decide +kernel)]; exact ⟨rfl, rfl⟩)
theorem said : Rows.BinaryShortestSaid :=
  OpenClaim.holds_of_cond 12 Tryz.f12 rfl rfl rfl rfl rfl rfl rfl ⟨rfl, rfl, rfl, rfl, rfl⟩ rfl rfl rfl rfl rfl t_func Tryz.func12 t_closed t_inst t_wrap
    (fun os started H enc _ F => by rw [OpenClaim.pre_eq_preRow]; exact lifted os started H enc F)

/-- No parameter wants a stand-in; the program's own looks are off. -/
theorem plain (f : FuncId) (fn : Func) (hf : Tryz.pinned.checked.prog.funcNamed Tryz.f12.name = some f) (hfn : Tryz.pinned.checked.prog.funcs[f]? = some fn) :
    true = Tryz.pinned.checked.prog.looks [] ∧ ∀ (j : Nat) t, fn.params[j]? = some t → Tryz.pinned.checked.prog.wantsStandIn t = false := by
  obtain rfl : f = 12 := Option.some.inj ((show Tryz.prog.funcNamed Tryz.f12.name = some 12 by kernel_rfl).symm.trans hf) |>.symm
  obtain rfl : fn = Tryz.f12 := (Option.some.inj (Tryz.func12.symm.trans hfn)).symm
  refine ⟨by kernel_rfl, fun j t ht => ?_⟩
  have h : (Tryz.f12.params.toList.all fun t => !Tryz.prog.wantsStandIn t) = true := by kernel_rfl
  have hm : t ∈ Tryz.f12.params.toList := by simpa using Array.mem_of_getElem? ht
  have h1 : (!Tryz.prog.wantsStandIn t) = true := List.all_eq_true.1 h t hm
  have h2 : Tryz.prog.wantsStandIn t = false := by simpa using h1
  exact h2

/-- The card: what is claimed. -/
theorem card : Rows.BinaryShortestCardSaid :=
  Claim7.holds_tied_plain_at .later [] _ _ _ _ said (fun _ h => by cases h) (by kernel_rfl) (fun _ h => by cases h) binaryShortest_row_tie rfl ⟨rfl, rfl⟩ (by kernel_rfl) rfl plain (by kernel_rfl)
#print axioms card
end Go.Proofs.YtjapgpmoojfhnaaGreatDoor.lawShortest
