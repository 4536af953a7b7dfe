/-
  DecimalLaws: for every input the law returns true, its arguments read behind the call as before it (the row; the card ties the five variables of the library that it lists).
  No condition. The row lists five variables of the library as their initialisers lay them.
-/
import Derived.Test.YtmgafnflkfbckaaDoorRow
import Derived.Test.YtmgafnflkfbckaaDoorLaw8
import Derived.Laws.IdiomArrays
import Derived.Lib.SmallJoins
namespace Go.Proofs.YtmgafnflkfbckaaDoor.lawLaws
open Go.ChangeShapes Go.WideShapes Go.ChangeAt Go.RowKit Go.Lib
open Go.ChangeMaps (open_string)

set_option maxRecDepth 100000 in
/-- An argument that is an array of three strings. -/
theorem open_texts {H : Type} {enc : TypeId × Value → H} {W : World} {base b0 : Nat} {sp : Nat → Bool} {hd : Bool} {r : Reach} {v : Value} {d : DataW H} {ps : List MemPlace}
    (hval : Value.okWide Tryd.prog W r b0 53 v) (h : DataW.Trod enc Tryd.prog W base sp hd 53 v d ps) : ∃ a b c : ByteArray, v = .agg #[.string a, .string b, .string c] := by
  have hu : Tryd.prog.underlying 53 = some (.array 3 9) := Tryd.underlying53
  simp only [Value.okWide, hu] at hval
  obtain ⟨cs, rfl, hsz, _⟩ := hval
  have hC : Tryd.prog.cellsOf 53 = 3 := by kernel_rfl
  obtain ⟨c0, c1, c2, rfl⟩ : ∃ c0 c1 c2 : Value, cs = #[c0, c1, c2] := by
    rw [hC] at hsz
    obtain ⟨l⟩ := cs
    match l, hsz with
    | [x, y, z], _ => exact ⟨x, y, z, rfl⟩
  obtain ⟨fuel, hf⟩ := h
  obtain ⟨y0, y1, y2, n, _, t0, t1, t2⟩ := trod_array3 hu (by kernel_rfl) hf
  obtain ⟨a, ha, _⟩ := DataW.trod_string Tryd.underlying9 t0
  cases ha
  obtain ⟨b, hb, _⟩ := DataW.trod_string Tryd.underlying9 t1
  cases hb
  obtain ⟨c, hc, _⟩ := DataW.trod_string Tryd.underlying9 t2
  cases hc
  exact ⟨a, b, c, rfl⟩

theorem params_ok : ∀ t ∈ Tryd.f8.params.toList, Tryd.prog.readableRec t = true ∧ t < Tryd.prog.types.size := by
  have h : (Tryd.f8.params.toList.all fun t => Tryd.prog.readableRec t && decide (t < Tryd.prog.types.size)) = true := by kernel_rfl
  intro t ht
  have := List.all_eq_true.1 h t ht
  simpa using this

set_option maxRecDepth 100000 in
theorem contract (H : Type) (enc : TypeId × Value → H) (W : World) (base : Nat) (args : Array Value) (ds gs : List (DataW H)) (before : List MemPlace)
    (hval : ∀ (j : Nat) t v, Tryd.f8.params[j]? = some t → args[j]? = some v → Value.okWide Tryd.prog W .any base t v)
    (hW : DataW.Whole enc Tryd.prog Tryd.f8.params.toList Rows.decimalLawsSpec.vars false W args.toList ds gs before) (hL : laidMetH Tryd.prog laidL W) :
    Calls Tryd.prog 8 args W fun e W' => ∃ v, e = .returned v ∧ Rows.decimalLawsSpec.post enc Tryd.prog Tryd.f8 false true false false W args v W' := by
  have hW' := hW
  obtain ⟨p, q, hA0, hV, rfl, hfz, hnd⟩ := hW
  have hA : DataW.TrodAll enc Tryd.prog W 0 (fun _ => true) true Tryd.f8.params.toList args.toList ds p := hA0
  rw [Tryd.params8] at hA hval
  obtain ⟨v0, vs0, d0, ds0, p0, q0, hargs, rfl, rfl, h0, r0⟩ := trodAll_cons hA
  obtain ⟨rfl, rfl, rfl⟩ := trodAll_nil r0
  obtain rfl : args = #[v0] := by cases args; simp_all
  obtain ⟨rfl, rfl⟩ := trodVars_none hV
  obtain ⟨a0, b0, c0, rfl⟩ := open_texts (hval 0 53 v0 rfl rfl) h0
  refine (law8 a0 b0 c0 W (laid_of hL)).mono fun e W' ⟨he, hb⟩ => ?_
  subst he
  exact ⟨_, rfl, post_keep hW' rfl (fun _ _ _ => trodAll_cons_mk (shut_bool Tryd.underlying4 _) trodAll_mk0) rfl rfl laidOut params_ok hb⟩

set_option maxRecDepth 100000 in
theorem reads (os : Os) {H : Type} (enc : TypeId × Value → H) : ∃ places, DataW.whole enc Tryd.prog ((laidWorld os).forCall (fun _ _ => 0) ⟨#[], #[.agg #[.string ByteArray.empty, .string ByteArray.empty, .string ByteArray.empty]], []⟩).memory Tryd.f8.params.toList Rows.decimalLawsSpec.vars false (#[.agg #[.string ByteArray.empty, .string ByteArray.empty, .string ByteArray.empty]] : Array Value).toList 8 = some ([.agg [.lit (.string []), .lit (.string []), .lit (.string [])]], [], places) :=
  ⟨[], by kernel_rfl⟩

set_option maxRecDepth 100000 in
theorem lifted (os : Os) (started : os.Started) (H : Type) (enc : TypeId × Value → H) (F : Stop.Interp) :
    ReturnsInHanded {} Tryd.checked os 8 .any ((OpenSpec.ofChange Rows.decimalLawsSpec).preRow enc Tryd.prog Tryd.f8 Rows.decimalLawsRow.domain false Rows.decimalLawsRow.laid) (((OpenSpec.ofChange Rows.decimalLawsSpec).at F).post enc Tryd.prog Tryd.f8 false true false false) := by
  obtain ⟨places, hx⟩ := reads os enc
  refine returnsInHanded_of_row (C := Tryd.checked) (s := OpenSpec.ofChange Rows.decimalLawsSpec) own started (by kernel_rfl) Tryd.func8
    (witness_row_at (enc := enc) (C := Tryd.checked) false (laidWorld os) #[.agg #[.string ByteArray.empty, .string ByteArray.empty, .string ByteArray.empty]] (World.laidAll_os _ _ _) (by kernel_rfl) (by kernel_rfl) (by kernel_rfl)
      (OpenSpec.preRow_of_cond 8 hx (by kernel_rfl) (fun k hk => by cases hk) (by kernel_rfl) (laid_met os _))) ?_
  intro W base args ds gs before hval hW _ _ _ hL _ _
  exact contract H enc W base args ds gs before hval hW hL

theorem said : Rows.DecimalLawsSaid :=
  OpenClaim.holds_of_cond 8 Tryd.f8 rfl rfl rfl rfl rfl rfl rfl ⟨rfl, rfl, rfl, rfl, rfl⟩ rfl rfl rfl rfl rfl (by kernel_rfl) Tryd.func8 (by kernel_rfl)
    (of_decide_eq_true (by kernel_rfl)) (by unfold Func.isWrapper; first | (rw [if_pos (by decide +kernel)]; kernel_rfl) | (rw [if_neg (by decide +kernel)]; exact ⟨rfl, rfl⟩))
    (fun os started H enc _ F => by rw [OpenClaim.pre_eq_preRow]; exact lifted os started H enc F)

/-- No parameter wants a stand-in; the program's own looks are off. -/
theorem plain (f : FuncId) (fn : Func) (hf : Tryd.pinned.checked.prog.funcNamed Tryd.f8.name = some f) (hfn : Tryd.pinned.checked.prog.funcs[f]? = some fn) :
    true = Tryd.pinned.checked.prog.looks [] ∧ ∀ (j : Nat) t, fn.params[j]? = some t → Tryd.pinned.checked.prog.wantsStandIn t = false := by
  obtain rfl : f = 8 := Option.some.inj ((show Tryd.prog.funcNamed Tryd.f8.name = some 8 by kernel_rfl).symm.trans hf) |>.symm
  obtain rfl : fn = Tryd.f8 := (Option.some.inj (Tryd.func8.symm.trans hfn)).symm
  refine ⟨by kernel_rfl, fun j t ht => ?_⟩
  have h : (Tryd.f8.params.toList.all fun t => !Tryd.prog.wantsStandIn t) = true := by kernel_rfl
  have hm : t ∈ Tryd.f8.params.toList := by simpa using Array.mem_of_getElem? ht
  have h1 : (!Tryd.prog.wantsStandIn t) = true := List.all_eq_true.1 h t hm
  have h2 : Tryd.prog.wantsStandIn t = false := by simpa using h1
  exact h2

/-- The card: what is claimed. -/
theorem card : Rows.DecimalLawsCardSaid :=
  Claim7.holds_tied_plain_at .later [] _ _ _ _ said (fun _ h => by cases h) (by kernel_rfl) (fun _ h => by cases h) decimalLaws_row_tie rfl ⟨rfl, rfl⟩ (by kernel_rfl) rfl plain (by kernel_rfl)
#print axioms card
end Go.Proofs.YtmgafnflkfbckaaDoor.lawLaws
