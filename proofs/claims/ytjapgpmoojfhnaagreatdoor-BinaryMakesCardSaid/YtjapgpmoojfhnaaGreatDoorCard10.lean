/-
  BinaryMakes: for every input the law returns true, its arguments read behind the call as before it (the row; the card ties the variables of the library and of the program that it lists).
  No condition. The row lists variables as their initialisers lay them.
-/
import Derived.Test.YtjapgpmoojfhnaaGreatDoorRow
import Derived.Test.YtjapgpmoojfhnaaGreatDoorLaw10
import Derived.Lib.SmallJoins
namespace Go.Proofs.YtjapgpmoojfhnaaGreatDoor.lawMakes
open Go.ChangeShapes Go.WideShapes Go.ChangeAt Go.RowKit Go.Lib
open Go.ChangeMaps (open_string)
open Go.Joins (open_agg3)

theorem u16_wf {n : Int} (h : (Lit.int .u16 n).wf = true) : ∃ a : Nat, n = (a : Int) ∧ a < 65536 := by
  have h2 : IntKind.u16.min ≤ n ∧ n ≤ IntKind.u16.max := by simpa [Lit.wf] using h
  have e1 : IntKind.u16.min = 0 := by decide
  have e2 : IntKind.u16.max = 65535 := by decide
  rw [e1, e2] at h2
  exact ⟨n.toNat, by omega, by omega⟩

theorem params_ok : ∀ t ∈ Tryz.f10.params.toList, Tryz.prog.readableRec t = true ∧ t < Tryz.prog.types.size := by
  have h : (Tryz.f10.params.toList.all fun t => Tryz.prog.readableRec t && decide (t < Tryz.prog.types.size)) = true := by kernel_rfl
  intro t ht
  have := List.all_eq_true.1 h t ht
  simpa using this

set_option maxRecDepth 100000 in
theorem contract (H : Type) (enc : TypeId × Value → H) (W : World) (base : Nat) (args : Array Value) (ds gs : List (DataW H)) (before : List MemPlace)
    (hval : ∀ (j : Nat) t v, Tryz.f10.params[j]? = some t → args[j]? = some v → Value.okWide Tryz.prog W .any base t v)
    (hW : DataW.Whole enc Tryz.prog Tryz.f10.params.toList Rows.binaryMakesSpec.vars false W args.toList ds gs before) (hL : laidMetH Tryz.prog laidL W) (hS : W.ShapedOpen Tryz.prog) :
    Calls Tryz.prog 10 args W fun e W' => ∃ v, e = .returned v ∧ Rows.binaryMakesSpec.post enc Tryz.prog Tryz.f10 false true false false W args v W' := by
  have hW' := hW
  obtain ⟨p, q, hA0, hV, rfl, hfz, hnd⟩ := hW
  have hA : DataW.TrodAll enc Tryz.prog W 0 (fun _ => true) true Tryz.f10.params.toList args.toList ds p := hA0
  rw [Tryz.params10] at hA hval
  obtain ⟨v0, vs0, d0, ds0, p0, q0, hargs, rfl, rfl, h0, r0⟩ := trodAll_cons hA
  obtain ⟨v1, vs1, d1, ds1, p1, q1, rfl, rfl, rfl, h1, r1⟩ := trodAll_cons r0
  obtain ⟨rfl, rfl, rfl⟩ := trodAll_nil r1
  obtain rfl : args = #[v0, v1] := by cases args; simp_all
  obtain ⟨rfl, rfl⟩ := trodVars_none hV
  obtain ⟨c0, c1, c2, y0, y1, y2, m, rfl, rfl, rfl, hy0, hy1, hy2⟩ := open_agg3 Tryz.underlying72 (by kernel_rfl) (by kernel_rfl) (hval 0 72 v0 rfl rfl) h0
  obtain ⟨g, e0, rfl⟩ := DataW.trod_bool Tryz.underlying4 hy0
  obtain ⟨D, e1, rfl, _⟩ := DataW.trod_string Tryz.underlying9 hy1
  obtain ⟨nn, e2, rfl, wn⟩ := DataW.trod_int Tryz.underlying70 hy2
  simp at e0 e1 e2
  subst e0 e1 e2
  obtain ⟨n, rfl, wn'⟩ := u16_wf wn
  obtain ⟨n1, rfl, rfl, rfl, wa1⟩ := open_int Tryz.underlying3 (hval 1 3 v1 rfl rfl) h1
  refine (law10 g D n n1 wn' (i64_wf wa1) W (laid_of hL hS)).mono fun e W' ⟨he, hb⟩ => ?_
  subst he
  exact ⟨_, rfl, post_keep hW' rfl (fun _ _ _ => trodAll_cons_mk (shut_bool Tryz.underlying4 _) trodAll_mk0) rfl rfl laidOut params_ok hb⟩

set_option maxRecDepth 100000 in
theorem reads (os : Os) {H : Type} (enc : TypeId × Value → H) : ∃ places, DataW.whole enc Tryz.prog ((laidWorld os).forCall (fun _ _ => 0) ⟨#[], #[.agg #[.bool false, .string ByteArray.empty, .int .u16 0], .int .i64 0], []⟩).memory Tryz.f10.params.toList Rows.binaryMakesSpec.vars false (#[.agg #[.bool false, .string ByteArray.empty, .int .u16 0], .int .i64 0] : Array Value).toList 8 = some ([.agg [.lit (.bool false), .lit (.string []), .lit (.int .u16 0)], .lit (.int .i64 0)], [], places) :=
  ⟨[], by kernel_rfl⟩

set_option maxRecDepth 100000 in
theorem lifted (os : Os) (started : os.Started) (H : Type) (enc : TypeId × Value → H) (F : Stop.Interp) :
    ReturnsInHanded {} Tryz.checked os 10 .any ((OpenSpec.ofChange Rows.binaryMakesSpec).preRow enc Tryz.prog Tryz.f10 Rows.binaryMakesRow.domain false Rows.binaryMakesRow.laid) (((OpenSpec.ofChange Rows.binaryMakesSpec).at F).post enc Tryz.prog Tryz.f10 false true false false) := by
  obtain ⟨places, hx⟩ := reads os enc
  refine returnsInHanded_of_row (C := Tryz.checked) (s := OpenSpec.ofChange Rows.binaryMakesSpec) own started (by kernel_rfl) Tryz.func10
    (witness_zip (enc := enc) #[.agg #[.bool false, .string ByteArray.empty, .int .u16 0], .int .i64 0] (by kernel_rfl)
      (OpenSpec.preRow_of_cond 8 hx (by kernel_rfl) (fun k hk => by cases hk) (by kernel_rfl) (laid_met os _))) ?_
  intro W base args ds gs before hval hW _ _ _ hL hS _
  exact contract H enc W base args ds gs before hval hW hL hS

theorem said : Rows.BinaryMakesSaid :=
  OpenClaim.holds_of_cond 10 Tryz.f10 rfl rfl rfl rfl rfl rfl rfl ⟨rfl, rfl, rfl, rfl, rfl⟩ rfl rfl rfl rfl rfl (by kernel_rfl) Tryz.func10 (by kernel_rfl)
    (of_decide_eq_true (by kernel_rfl)) (by unfold Func.isWrapper; first | (rw [if_pos (by decide +kernel)]; kernel_rfl) | (rw [if_neg (by decide +kernel)]; exact ⟨rfl, rfl⟩))
    (fun os started H enc _ F => by rw [OpenClaim.pre_eq_preRow]; exact lifted os started H enc F)

/-- No parameter wants a stand-in; the program's own looks are off. -/
theorem plain (f : FuncId) (fn : Func) (hf : Tryz.pinned.checked.prog.funcNamed Tryz.f10.name = some f) (hfn : Tryz.pinned.checked.prog.funcs[f]? = some fn) :
    true = Tryz.pinned.checked.prog.looks [] ∧ ∀ (j : Nat) t, fn.params[j]? = some t → Tryz.pinned.checked.prog.wantsStandIn t = false := by
  obtain rfl : f = 10 := Option.some.inj ((show Tryz.prog.funcNamed Tryz.f10.name = some 10 by kernel_rfl).symm.trans hf) |>.symm
  obtain rfl : fn = Tryz.f10 := (Option.some.inj (Tryz.func10.symm.trans hfn)).symm
  refine ⟨by kernel_rfl, fun j t ht => ?_⟩
  have h : (Tryz.f10.params.toList.all fun t => !Tryz.prog.wantsStandIn t) = true := by kernel_rfl
  have hm : t ∈ Tryz.f10.params.toList := by simpa using Array.mem_of_getElem? ht
  have h1 : (!Tryz.prog.wantsStandIn t) = true := List.all_eq_true.1 h t hm
  have h2 : Tryz.prog.wantsStandIn t = false := by simpa using h1
  exact h2

/-- The card: what is claimed. -/
theorem card : Rows.BinaryMakesCardSaid :=
  Claim7.holds_tied_plain_at .later [] _ _ _ _ said (fun _ h => by cases h) (by kernel_rfl) (fun _ h => by cases h) binaryMakes_row_tie rfl ⟨rfl, rfl⟩ (by kernel_rfl) rfl plain (by kernel_rfl)
#print axioms card
end Go.Proofs.YtjapgpmoojfhnaaGreatDoor.lawMakes
