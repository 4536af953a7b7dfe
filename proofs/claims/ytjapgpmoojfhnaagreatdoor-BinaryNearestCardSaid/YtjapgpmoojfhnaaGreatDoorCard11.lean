/- BinaryNearest: for every input the law returns true, its arguments read behind the call as before it (the row; the card ties the variables of the library and of the program that it lists). No condition. The row lists variables as their initialisers lay them. -/
import Derived.Test.YtjapgpmoojfhnaaGreatDoorB45
import Derived.Test.YtjapgpmoojfhnaaGreatDoorRow4
import Derived.Lib.SmallJoins
namespace Go.Proofs.YtjapgpmoojfhnaaGreatDoor.lawNearest
open Go.ChangeShapes Go.WideShapes Go.ChangeAt Go.RowKit Go.Lib
open Go.ChangeMaps (open_string)
open Go.Joins (open_agg3)

theorem i16_wf {n : Int} (h : (Lit.int .i16 n).wf = true) : -32768 ≤ n ∧ n ≤ 32767 := by
  have h2 : IntKind.i16.min ≤ n ∧ n ≤ IntKind.i16.max := by simpa [Lit.wf] using h
  have e1 : IntKind.i16.min = -32768 := by decide
  have e2 : IntKind.i16.max = 32767 := by decide
  rw [e1, e2] at h2
  exact h2

theorem params_ok : ∀ t ∈ Tryz.f11.params.toList, Tryz.prog.readableRec t = true ∧ t < Tryz.prog.types.size := by
  have h : (Tryz.f11.params.toList.all fun t => Tryz.prog.readableRec t && decide (t < Tryz.prog.types.size)) = true := by kernel_rfl
  intro t ht
  have := List.all_eq_true.1 h t ht
  simpa using this

set_option maxRecDepth 100000 in
theorem contract (H : Type) (enc : TypeId × Value → H) (W : World) (base : Nat) (args : Array Value) (ds gs : List (DataW H)) (before : List MemPlace)
    (hval : ∀ (j : Nat) t v, Tryz.f11.params[j]? = some t → args[j]? = some v → Value.okWide Tryz.prog W .any base t v)
    (hW : DataW.Whole enc Tryz.prog Tryz.f11.params.toList Rows.binaryNearestSpec.vars false W args.toList ds gs before) (hL : laidMetH Tryz.prog laidL2 W) (hS : W.ShapedOpen Tryz.prog) :
    Calls Tryz.prog 11 args W fun e W' => ∃ v, e = .returned v ∧ Rows.binaryNearestSpec.post enc Tryz.prog Tryz.f11 false true false false W args v W' := by
  have hW' := hW
  obtain ⟨p, q, hA0, hV, rfl, hfz, hnd⟩ := hW
  have hA : DataW.TrodAll enc Tryz.prog W 0 (fun _ => true) true Tryz.f11.params.toList args.toList ds p := hA0
  rw [Tryz.params11] at hA hval
  obtain ⟨v0, vs0, d0, ds0, p0, q0, hargs, rfl, rfl, h0, r0⟩ := trodAll_cons hA
  obtain ⟨v1, vs1, d1, ds1, p1, q1, rfl, rfl, rfl, h1, r1⟩ := trodAll_cons r0
  obtain ⟨rfl, rfl, rfl⟩ := trodAll_nil r1
  obtain rfl : args = #[v0, v1] := by cases args; simp_all
  obtain ⟨rfl, rfl⟩ := trodVars_none hV
  obtain ⟨c00, c10, c20, y00, y10, y20, m0, rfl, rfl, rfl, hy00, hy10, hy20⟩ := open_agg3 Tryz.underlying43 (by kernel_rfl) (by kernel_rfl) (hval 0 43 v0 rfl rfl) h0
  obtain ⟨g0, e00, rfl⟩ := DataW.trod_bool Tryz.underlying4 hy00
  obtain ⟨D0, e10, rfl, _⟩ := DataW.trod_string Tryz.underlying9 hy10
  obtain ⟨n0, e20, rfl, wn0⟩ := DataW.trod_int Tryz.underlying41 hy20
  simp at e00 e10 e20
  subst e00 e10 e20
  have wi0 := i16_wf wn0
  obtain ⟨s1, rfl, rfl, rfl, _⟩ := open_string Tryz.underlying9 (hval 1 9 v1 rfl rfl) h1
  obtain ⟨B, C, D, hB⟩ := laid4_of hL hS
  refine (law11 g0 D0 n0 s1 wi0 W B C D hB).mono fun e W' ⟨he, hb⟩ => ?_
  subst he
  exact ⟨_, rfl, post_keep hW' rfl (fun _ _ _ => trodAll_cons_mk (shut_bool Tryz.underlying4 _) trodAll_mk0) rfl rfl laidOut params_ok hb⟩

set_option maxRecDepth 100000 in
theorem reads (os : Os) {H : Type} (enc : TypeId × Value → H) : ∃ places, DataW.whole enc Tryz.prog ((laidWorld2 os).forCall (fun _ _ => 0) ⟨#[], #[.agg #[.bool false, .string ByteArray.empty, .int .i16 0], .string ByteArray.empty], []⟩).memory Tryz.f11.params.toList Rows.binaryNearestSpec.vars false (#[.agg #[.bool false, .string ByteArray.empty, .int .i16 0], .string ByteArray.empty] : Array Value).toList 8 = some ([.agg [.lit (.bool false), .lit (.string []), .lit (.int .i16 0)], .lit (.string [])], [], places) :=
  ⟨[], by kernel_rfl⟩

set_option maxRecDepth 100000 in
theorem lifted (os : Os) (started : os.Started) (H : Type) (enc : TypeId × Value → H) (F : Stop.Interp) :
    ReturnsInHanded {} Tryz.checked os 11 .any ((OpenSpec.ofChange Rows.binaryNearestSpec).preRow enc Tryz.prog Tryz.f11 Rows.binaryNearestRow.domain false Rows.binaryNearestRow.laid) (((OpenSpec.ofChange Rows.binaryNearestSpec).at F).post enc Tryz.prog Tryz.f11 false true false false) := by
  obtain ⟨places, hx⟩ := reads os enc
  refine returnsInHanded_of_row (C := Tryz.checked) (s := OpenSpec.ofChange Rows.binaryNearestSpec) own started (by kernel_rfl) Tryz.func11
    (witness_zip2 (enc := enc) #[.agg #[.bool false, .string ByteArray.empty, .int .i16 0], .string ByteArray.empty] (by kernel_rfl)
      (OpenSpec.preRow_of_cond 8 hx (by kernel_rfl) (fun k hk => by cases hk) (by kernel_rfl) (laid_met2 os _))) ?_
  intro W base args ds gs before hval hW _ _ _ hL hS _
  exact contract H enc W base args ds gs before hval hW hL hS

theorem t_wf : Rows.binaryNearestRow.wf (OpenSpec.ofChange (OpenSpec.ofChange Rows.binaryNearestSpec).bare) = true := by kernel_rfl
theorem t_place : (Rows.binaryNearestRow.inPlace == Tryz.prog.inPlace 11) = true := by kernel_rfl
theorem t_unf : (Rows.binaryNearestRow.unfollowed == Tryz.prog.unfollowed 11) = true := by kernel_rfl
theorem t_rec : (Rows.binaryNearestRow.recurses == Tryz.prog.recurses 11) = true := by kernel_rfl
theorem t_named : (Rows.binaryNearestRow.named == Tryz.prog.varsNamed 11) = true := by kernel_rfl
theorem t_rowed : mapsRowed Tryz.prog = true := by kernel_rfl
theorem t_closed : joinedFacts Tryz.prog 11 Tryz.f11 (OpenSpec.ofChange Rows.binaryNearestSpec).bare Rows.binaryNearestRow = true := by
  unfold joinedFacts
  rw [t_wf, t_place, t_unf, t_rec, t_named, t_rowed, laidOut]
  kernel_rfl
theorem t_func : Tryz.prog.funcNamed Rows.binaryNearestRow.func = some 11 := by kernel_rfl
theorem t_inst : Tryz.f11.isInstance Tryz.prog Rows.binaryNearestRow.origin Rows.binaryNearestRow.targs := of_decide_eq_true (by kernel_rfl)
theorem t_wrap : Tryz.f11.isWrapper Tryz.prog Rows.binaryNearestRow.wrapper Rows.binaryNearestRow.mainSum := by
  unfold Func.isWrapper; first | (rw [if_pos (by decide +kernel)]; kernel_rfl) | (rw [if_neg (by decide +kernel)]; exact ⟨rfl, rfl⟩)
theorem said : Rows.BinaryNearestSaid :=
  OpenClaim.holds_of_cond 11 Tryz.f11 rfl rfl rfl rfl rfl rfl rfl ⟨rfl, rfl, rfl, rfl, rfl⟩ rfl rfl rfl rfl rfl t_func Tryz.func11 t_closed t_inst t_wrap
    (fun os started H enc _ F => by rw [OpenClaim.pre_eq_preRow]; exact lifted os started H enc F)

/-- No parameter wants a stand-in; the program's own looks are off. -/
theorem plain (f : FuncId) (fn : Func) (hf : Tryz.pinned.checked.prog.funcNamed Tryz.f11.name = some f) (hfn : Tryz.pinned.checked.prog.funcs[f]? = some fn) :
    true = Tryz.pinned.checked.prog.looks [] ∧ ∀ (j : Nat) t, fn.params[j]? = some t → Tryz.pinned.checked.prog.wantsStandIn t = false := by
  obtain rfl : f = 11 := Option.some.inj ((show Tryz.prog.funcNamed Tryz.f11.name = some 11 by kernel_rfl).symm.trans hf) |>.symm
  obtain rfl : fn = Tryz.f11 := (Option.some.inj (Tryz.func11.symm.trans hfn)).symm
  refine ⟨by kernel_rfl, fun j t ht => ?_⟩
  have h : (Tryz.f11.params.toList.all fun t => !Tryz.prog.wantsStandIn t) = true := by kernel_rfl
  have hm : t ∈ Tryz.f11.params.toList := by simpa using Array.mem_of_getElem? ht
  have h1 : (!Tryz.prog.wantsStandIn t) = true := List.all_eq_true.1 h t hm
  have h2 : Tryz.prog.wantsStandIn t = false := by simpa using h1
  exact h2

/-- The card: what is claimed. -/
theorem card : Rows.BinaryNearestCardSaid :=
  Claim7.holds_tied_plain_at .later [] _ _ _ _ said (fun _ h => by cases h) (by kernel_rfl) (fun _ h => by cases h) binaryNearest_row_tie rfl ⟨rfl, rfl⟩ (by kernel_rfl) rfl plain (by kernel_rfl)
#print axioms card
end Go.Proofs.YtjapgpmoojfhnaaGreatDoor.lawNearest
