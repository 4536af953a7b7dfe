/- Chain[int], goroutine 0: the frames at the hiring of a forwarder; region 9 (its channel, its variables) draws its order. Made by gen_cmb.py. -/
import Derived.Test.YtblpmdolclalnaaQ09
import Derived.Test.YtblpmdolclalnaaQ12
set_option maxHeartbeats 16000000
set_option linter.unusedSimpArgs false
set_option linter.unusedVariables false
namespace Go.Proofs.Ytblpmdolclalnaa
open Go.Conc Go.RowKit Go.Conc.Lib Go.ConcR.Gen Go.ConcN.Gen
open Go.ConcR (WgAt KK stA smA rd wr mk DC0)
open Go.ConcN (WgLive)
theorem bytes3 : ∃ i, Try.prog.info? 3 = some i ∧ i.bytes = 8 := by
 have h : (Try.prog.info? 3).map (·.bytes) = some 8 := by kernel_rfl
 obtain ⟨i, hi, hb⟩ := Option.map_eq_some_iff.1 h
 exact ⟨i, hi, hb⟩
@[go_sem] theorem mk75 (w : World) : (Instr.makeChan 75 (.int .i64 0)).run Try.prog w = .ok (.chan (some w.heap.size)) (w.alloc (.chan 0 #[] false 0 0 false)) := by
 obtain ⟨i, hi, hb⟩ := bytes3
 simpa using run_makeChan (P := Try.prog) (w := w) Try.underlying75 hi .i64 0 (by omega) (by rw [hb]; omega)
@[go_sem] theorem mk75e (w : World) (es : Array Event) : (Instr.makeChan 75 (.int .i64 0)).events Try.prog w es = es := by
 obtain ⟨i, hi, hb⟩ := bytes3
 simpa using events_makeChan (P := Try.prog) (w := w) Try.underlying75 hi .i64 0 (by omega) (by rw [hb]; omega) es
noncomputable def body16 : Code := Try.f16.body.getD .skip
noncomputable def tl16 : Nat → Code | 0 => body16 | n + 1 => cS (tl16 n)
noncomputable def lp16 : Code := cI (cI (cS (cF (tl16 5))))
noncomputable def bd16 : Code := cI (cF (cS (cS lp16)))
noncomputable def kl16 : List Item := [.inBlock 1, .code (cS (cS (cS lp16))), .inLoop lp16, .inBlock 0, .code (tl16 6)]
noncomputable def ops9 : Array Oper := cO (cF (cS bd16))
noncomputable def k9 : List Item := .code (cS (cS bd16)) :: kl16
noncomputable def ops10 : Array Oper := cO (cF (cS (cS bd16)))
noncomputable def k10 : List Item := .code (cS (cS (cS bd16))) :: kl16
structure Box1 (m : ChM) (own : Nat → Prop) (Given : Cells) (Fz : Nat → Prop) (e7 e8 : Nat) (t : TypeId) (b : Nat) (w : World) : Prop where
 own : own b
 given : ∀ x, ¬ Given b x
 fz : ¬ Fz b
 low : m.n0 ≤ b
 n7 : b ≠ e7 ∧ b ≠ e8
 typ : ∃ cs : Array Value, w.heap[b]? = some (.cells cs t (0, 0))
 cell : ∃ v, w.cell? ⟨b, 0, none⟩ = some v
structure Chn (own : Nat → Prop) (Given : Cells) (Fz : Nat → Prop) (c : Nat) (w : World) : Prop where
 own : own c
 given : ∀ x, ¬ Given c x
 fz : ¬ Fz c
 chan : w.heap[c]? = some (.chan 0 #[] false 0 0 false)
section
variable {m : ChM} {own : Nat → Prop} {Given : Cells} {Fz : Nat → Prop} {p e7 e8 e10 ci co e11 e12 b t : Nat} {w w₁ : World}
theorem Box1.rely {Wg : Nat} (h : Box1 m own Given Fz e7 e8 t b w) (r : MR 66 Wg own Given w w₁) : Box1 m own Given Fz e7 e8 t b w₁ := by
 obtain ⟨cs, hc⟩ := h.typ
 obtain ⟨cs', hc', _⟩ := r.form _ _ _ _ hc
 obtain ⟨v, hv⟩ := h.cell
 exact ⟨h.own, h.given, h.fz, h.low, h.n7, ⟨cs', hc'⟩, v, (r.cell b 0 (cell_lt hv) ⟨h.own, h.given 0⟩).trans hv⟩
theorem Box1.more (h : Box1 m own Given Fz e7 e8 t b w) (hb : ∀ b, b < w.heap.size → w₁.heap[b]? = w.heap[b]?) : Box1 m own Given Fz e7 e8 t b w₁ := by
 obtain ⟨cs, hc⟩ := h.typ
 obtain ⟨v, hv⟩ := h.cell
 have := hb b (cell_lt hv)
 exact ⟨h.own, h.given, h.fz, h.low, h.n7, ⟨cs, this.trans hc⟩, v, (cell?_eq this 0).trans hv⟩
theorem Box1.lt (h : Box1 m own Given Fz e7 e8 t b w) : b < w.heap.size := let ⟨_, hv⟩ := h.cell; cell_lt hv
theorem Box1.set {b' : Nat} (h : Box1 m own Given Fz e7 e8 t b w) (hb : b' ≠ b) (v : Value) : Box1 m own Given Fz e7 e8 t b (w.setCell ⟨b', 0, none⟩ v) := by
 obtain ⟨cs, hc⟩ := h.typ
 obtain ⟨v', hv⟩ := h.cell
 have : (w.setCell ⟨b', 0, none⟩ v).heap[b]? = w.heap[b]? := setCell_ne (Ne.symm hb)
 exact ⟨h.own, h.given, h.fz, h.low, h.n7, ⟨cs, this.trans hc⟩, v', (cell?_eq this 0).trans hv⟩
theorem Box1.fill (h : Box1 m own Given Fz e7 e8 t b w) (v : Value) : Box1 m own Given Fz e7 e8 t b (w.setCell ⟨b, 0, none⟩ v) ∧ (w.setCell ⟨b, 0, none⟩ v).cell? ⟨b, 0, none⟩ = some v := by
 obtain ⟨cs, hc⟩ := h.typ
 obtain ⟨v₀, h0⟩ := h.cell
 have hlen : 0 < cs.size := by
   simp only [World.cell?, hc] at h0
   cases hh : cs[0]? with
   | none => simp [hh] at h0
   | some x => exact (Array.getElem?_eq_some_iff.1 hh).1
 have at' : (w.setCell ⟨b, 0, none⟩ v).heap[b]? = some (.cells (cs.setIfInBounds 0 v) t (0, 0)) := by
   unfold World.setCell
   simp [Array.getElem?_modify, hc]
 have e : (w.setCell ⟨b, 0, none⟩ v).cell? ⟨b, 0, none⟩ = some v := by simp [World.cell?, at', hlen]
 exact ⟨⟨h.own, h.given, h.fz, h.low, h.n7, ⟨_, at'⟩, v, e⟩, e⟩
theorem Box1.new {z : Value} (hw : CW m Given Fz p e7 e8 ci w) (ho : own w.heap.size) : Box1 m own Given Fz e7 e8 t w.heap.size (w.alloc (.cells #[z] t)) := by
 have hn := heap_alloc_new w (Obj.cells #[z] t)
 refine ⟨ho, fun x hx => Nat.lt_irrefl _ (hw.gsz _ x hx), fun hx => Nat.lt_irrefl _ (hw.fsz _ hx), hw.out.size, ⟨fun e => Nat.lt_irrefl _ (e ▸ cell_lt hw.c7), fun e => Nat.lt_irrefl _ (e ▸ cell_lt hw.c8)⟩, ⟨_, hn⟩, z, by unfold World.cell?; rw [hn]; rfl⟩
theorem Chn.rely {Wg : Nat} (h : Chn own Given Fz b w) (r : MR 66 Wg own Given w w₁) : Chn own Given Fz b w₁ :=
 ⟨h.own, h.given, h.fz, (r.blk b (Array.getElem?_eq_some_iff.1 h.chan).1 fun x => ⟨h.own, h.given x⟩).trans h.chan⟩
theorem Chn.more (h : Chn own Given Fz b w) (hb : ∀ b, b < w.heap.size → w₁.heap[b]? = w.heap[b]?) : Chn own Given Fz b w₁ := ⟨h.own, h.given, h.fz, (hb b (Array.getElem?_eq_some_iff.1 h.chan).1).trans h.chan⟩
theorem Chn.set {b' o : Nat} {cs : Array Value} {u : TypeId} (h : Chn own Given Fz b w) (hc : w.heap[b']? = some (.cells cs u (0, 0))) (v : Value) : Chn own Given Fz b (w.setCell ⟨b', o, none⟩ v) :=
 ⟨h.own, h.given, h.fz, (setCell_ne (fun e : b = b' => by have := h.chan; rw [e, hc] at this; cases this)).trans h.chan⟩
theorem Chn.new (hw : CW m Given Fz p e7 e8 ci w) (ho : own w.heap.size) : Chn own Given Fz w.heap.size (w.alloc (.chan 0 #[] false 0 0 false)) :=
 ⟨ho, fun x hx => Nat.lt_irrefl _ (hw.gsz _ x hx), fun hx => Nat.lt_irrefl _ (hw.fsz _ hx), heap_alloc_new w _⟩
structure R9 (m : ChM) (own : Nat → Prop) (Given : Cells) (Fz : Nat → Prop) (p e7 e8 e10 ci : Nat) (d1 d2 d3 d4 d5 : Bool) (co e11 e12 : Nat) (w : World) : Prop where
 cw : CW m Given Fz p e7 e8 ci w
 b10 : Box1 m own Given Fz e7 e8 28 e10 w
 c10 : w.cell? ⟨e10, 0, none⟩ = some (m.q.fv p)
 ch : d1 = true → Chn own Given Fz co w ∧ ci < co
 b11 : d2 = true → Box1 m own Given Fz e7 e8 75 e11 w ∧ e11 ≠ e10
 b12 : d3 = true → Box1 m own Given Fz e7 e8 75 e12 w ∧ e12 ≠ e10
 ne : d2 = true → d3 = true → e11 ≠ e12
 c11 : d4 = true → w.cell? ⟨e11, 0, none⟩ = some (.chan (some ci))
 c12 : d5 = true → w.cell? ⟨e12, 0, none⟩ = some (.chan (some co))
 e4 : d4 = true → d2 = true ∧ d3 = true
 e5 : d5 = true → d4 = true ∧ d1 = true
section
variable {d1 d2 d3 d4 d5 : Bool}
theorem R9.rely (g : CG m own Given Fz p e7 e8) (h : R9 m own Given Fz p e7 e8 e10 ci d1 d2 d3 d4 d5 co e11 e12 w) (r : MR 66 m.q.Wg own Given w w₁) : R9 m own Given Fz p e7 e8 e10 ci d1 d2 d3 d4 d5 co e11 e12 w₁ :=
 ⟨h.cw.rely g r, h.b10.rely r, (r.cell e10 0 (cell_lt h.c10) ⟨h.b10.own, h.b10.given 0⟩).trans h.c10, fun x => ⟨(h.ch x).1.rely r, (h.ch x).2⟩, fun x => ⟨(h.b11 x).1.rely r, (h.b11 x).2⟩, fun x => ⟨(h.b12 x).1.rely r, (h.b12 x).2⟩, h.ne,
   fun x => (let b := (h.b11 (h.e4 x).1).1; (r.cell e11 0 (cell_lt (h.c11 x)) ⟨b.own, b.given 0⟩).trans (h.c11 x)), fun x => (let b := (h.b12 (h.e4 (h.e5 x).1).2).1; (r.cell e12 0 (cell_lt (h.c12 x)) ⟨b.own, b.given 0⟩).trans (h.c12 x)), h.e4, h.e5⟩
theorem R9.more (h : R9 m own Given Fz p e7 e8 e10 ci d1 d2 d3 d4 d5 co e11 e12 w) (o : Obj) : R9 m own Given Fz p e7 e8 e10 ci d1 d2 d3 d4 d5 co e11 e12 (w.alloc o) := by
 have hb : ∀ b, b < w.heap.size → (w.alloc o).heap[b]? = w.heap[b]? := fun b hb => heap_alloc_old _ _ b hb
 exact ⟨h.cw.alloc o, h.b10.more hb, (cell?_eq (hb _ (cell_lt h.c10)) 0).trans h.c10, fun x => ⟨(h.ch x).1.more hb, (h.ch x).2⟩, fun x => ⟨(h.b11 x).1.more hb, (h.b11 x).2⟩, fun x => ⟨(h.b12 x).1.more hb, (h.b12 x).2⟩, h.ne,
   fun x => (cell?_eq (hb _ (cell_lt (h.c11 x))) 0).trans (h.c11 x), fun x => (cell?_eq (hb _ (cell_lt (h.c12 x))) 0).trans (h.c12 x), h.e4, h.e5⟩
theorem R9.op1 (h : R9 m own Given Fz p e7 e8 e10 ci false d2 d3 d4 d5 co e11 e12 w) (ho : own w.heap.size) : R9 m own Given Fz p e7 e8 e10 ci true d2 d3 d4 d5 w.heap.size e11 e12 (w.alloc (.chan 0 #[] false 0 0 false)) :=
 let h' := h.more (.chan 0 #[] false 0 0 false)
 ⟨h'.cw, h'.b10, h'.c10, fun _ => ⟨Chn.new h.cw ho, h.cw.lt⟩, h'.b11, h'.b12, h'.ne, h'.c11, fun x => (by have := (h.e5 x).2; cases this), h'.e4, fun x => (by have := (h.e5 x).2; cases this)⟩
theorem R9.op2 {z : Value} (h : R9 m own Given Fz p e7 e8 e10 ci d1 false d3 d4 d5 co e11 e12 w) (ho : own w.heap.size) : R9 m own Given Fz p e7 e8 e10 ci d1 true d3 d4 d5 co w.heap.size e12 (w.alloc (.cells #[z] 75)) :=
 let h' := h.more (.cells #[z] 75)
 ⟨h'.cw, h'.b10, h'.c10, h'.ch, fun _ => ⟨Box1.new h.cw ho, fun e => Nat.lt_irrefl _ (e ▸ h.b10.lt)⟩, h'.b12, fun _ x e => Nat.lt_irrefl _ (e ▸ (h.b12 x).1.lt), fun x => (by have := (h.e4 x).1; cases this), h'.c12, fun x => (by have := (h.e4 x).1; cases this), h'.e5⟩
theorem R9.op3 {z : Value} (h : R9 m own Given Fz p e7 e8 e10 ci d1 d2 false d4 d5 co e11 e12 w) (ho : own w.heap.size) : R9 m own Given Fz p e7 e8 e10 ci d1 d2 true d4 d5 co e11 w.heap.size (w.alloc (.cells #[z] 75)) :=
 let h' := h.more (.cells #[z] 75)
 ⟨h'.cw, h'.b10, h'.c10, h'.ch, h'.b11, fun _ => ⟨Box1.new h.cw ho, fun e => Nat.lt_irrefl _ (e ▸ h.b10.lt)⟩, fun x _ e => Nat.lt_irrefl _ (e ▸ (h.b11 x).1.lt), h'.c11, fun x => (by have := (h.e4 (h.e5 x).1).2; cases this), fun x => (by have := (h.e4 x).2; cases this), h'.e5⟩
theorem R9.op4 (h : R9 m own Given Fz p e7 e8 e10 ci d1 true true false d5 co e11 e12 w) : R9 m own Given Fz p e7 e8 e10 ci d1 true true true d5 co e11 e12 (w.setCell ⟨e11, 0, none⟩ (.chan (some ci))) := by
 obtain ⟨b, hb10⟩ := h.b11 rfl
 obtain ⟨b2, h210⟩ := h.b12 rfl
 obtain ⟨cs, hc⟩ := b.typ
 have hf := b.fill (.chan (some ci))
 exact ⟨h.cw.set hc (by decide) b.low b.n7.1 b.n7.2, h.b10.set hb10 _, (cell?_eq (setCell_ne (Ne.symm hb10)) 0).trans h.c10, fun x => ⟨(h.ch x).1.set hc _, (h.ch x).2⟩, fun _ => ⟨hf.1, hb10⟩, fun _ => ⟨b2.set (h.ne rfl rfl) _, h210⟩, h.ne, fun _ => hf.2, fun x => (by have := (h.e5 x).1; cases this), fun _ => ⟨rfl, rfl⟩, fun x => (by have := (h.e5 x).1; cases this)⟩
theorem R9.op5 (h : R9 m own Given Fz p e7 e8 e10 ci true true true true false co e11 e12 w) : R9 m own Given Fz p e7 e8 e10 ci true true true true true co e11 e12 (w.setCell ⟨e12, 0, none⟩ (.chan (some co))) := by
 obtain ⟨b1, h110⟩ := h.b11 rfl
 obtain ⟨b, hb10⟩ := h.b12 rfl
 obtain ⟨cs, hc⟩ := b.typ
 have hf := b.fill (.chan (some co))
 have hne := h.ne rfl rfl
 exact ⟨h.cw.set hc (by decide) b.low b.n7.1 b.n7.2, h.b10.set hb10 _, (cell?_eq (setCell_ne (Ne.symm hb10)) 0).trans h.c10, fun x => ⟨(h.ch x).1.set hc _, (h.ch x).2⟩, fun _ => ⟨b1.set (Ne.symm hne) _, h110⟩, fun _ => ⟨hf.1, hb10⟩, h.ne, fun _ => (cell?_eq (setCell_ne hne) 0).trans (h.c11 rfl), fun _ => hf.2, fun _ => ⟨rfl, rfl⟩, fun _ => ⟨rfl, rfl⟩⟩
end
theorem MR.refl' (Wg : Nat) (w : World) : MR 66 Wg own Given w w := Rel.refl w
theorem draw_relyM {Wg : Nat} (h : MR 66 Wg own Given w w₁) : MR 66 Wg own Given w { w₁ with drawn := w₁.drawn + 1 } := Rel.trans h (Rel.at w₁ (w₁.drawn + 1))
set_option maxRecDepth 100000 in
theorem draw9 {Stop : Goroutine → World → Prop} {n : Nat} {v1 v2 v3 v4 v5 v9 v11 v12 v13 v14 v15 v16 v17 v18 v19 v20 v21 v22 v23 v24 v25 v26 v27 v31 v32 v33 v34 v35 v36 v37 v38 v39 v40 v41 v42 v43 v44 v45 v46 v47 v48 : Value} (g : CG m own Given Fz p e7 e8)
   (hS : ∀ w co e11 e12, R9 m own Given Fz p e7 e8 e10 ci true true true true true co e11 e12 w → Goo Try.prog true own (MR 66 m.q.Wg own Given) (MD m.q.Wg own Given Fz) Stop n (G ((base 16).at ⟨#[m.inV, v1, v2, v3, v4, v5, ptr m.q.Wg, ptr e7, ptr e8, v9, ptr e10, ptr e11, ptr e12, v13, v14, v15, v16, v17, v18, v19, v20, v21, v22, v23, v24, v25, v26, v27, m.fsV, .int .i64 m.q.nf, .int .i64 p, v31, v32, v33, .chan (some ci), .chan (some co), v36, v37, v38, v39, v40, v41, v42, v43, v44, v45, v46, v47, v48], []⟩ (.inRegion ops9 [] :: k9)) m.cs) w)
   (t : Nat) (w : World) (hF : R9 m own Given Fz p e7 e8 e10 ci false false false false false 0 0 0 w) :
   Goo Try.prog true own (MR 66 m.q.Wg own Given) (MD m.q.Wg own Given Fz) Stop (n + 6) (G ((base 16).at ⟨#[m.inV, v1, v2, v3, v4, v5, ptr m.q.Wg, ptr e7, ptr e8, v9, ptr e10, v11, v12, v13, v14, v15, v16, v17, v18, v19, v20, v21, v22, v23, v24, v25, v26, v27, m.fsV, .int .i64 m.q.nf, .int .i64 p, v31, v32, v33, v34, v35, v36, v37, v38, v39, v40, v41, v42, v43, v44, v45, v46, v47, v48], []⟩ (.inRegion ops9 (lin ops9 6 t #[false, false, false, false, false, false]) :: k9)) m.cs) w := by
 have s01234 : ∀ t w co e11 e12, R9 m own Given Fz p e7 e8 e10 ci true true true true false co e11 e12 w → Goo Try.prog true own (MR 66 m.q.Wg own Given) (MD m.q.Wg own Given Fz) Stop (n + 1) (G ((base 16).at ⟨#[m.inV, v1, v2, v3, v4, v5, ptr m.q.Wg, ptr e7, ptr e8, v9, ptr e10, ptr e11, ptr e12, v13, v14, v15, v16, v17, v18, v19, v20, v21, v22, v23, v24, v25, v26, v27, m.fsV, .int .i64 m.q.nf, .int .i64 p, v31, v32, v33, .chan (some ci), .chan (some co), v36, v37, v38, v39, v40, v41, v42, v43, v44, v45, v46, v47, v48], []⟩ (.inRegion ops9 (lin ops9 1 t #[true, true, true, true, true, false]) :: k9)) m.cs) w := by
   intro t w co e11 e12 hF
   refine goo_lin (rs := [5]) (by first | rfl | kernel_rfl) (by simp) (fun i hi t => ?_) t
   simp only [List.mem_cons, List.not_mem_nil, or_false] at hi
   rcases hi with rfl
   · refine Goo.step (n := n + 0) rfl fun w₁ h₁ => ?_
     replace hF := hF.rely g h₁
     clear h₁
     refine goes_oper_k (o := { dst := none, op := .store 75 (.tmp 12) (.tmp 35), type := 0, pos := "stage.go:61", after := #[{ on := 3, ground := .data }, { on := 1, ground := .data }, { on := 4, ground := .chain }, { on := 0, ground := .phase }, { on := 1, ground := .phase }, { on := 2, ground := .phase }, { on := 3, ground := .phase }, { on := 4, ground := .phase }], guard := none }) rfl rfl (by decide) (fun K hK => ?_)
     obtain ⟨cs, hc⟩ := (hF.b12 rfl).1.typ
     obtain ⟨v₀, h0⟩ := (hF.b12 rfl).1.cell
     have hfz := frozen_of hc 0
     go_simp
     try (unfold stored; go_simp)
     refine hK _ _ ⟨gua_write (a := ⟨e12, 0, none⟩) rfl hc ⟨(hF.b12 rfl).1.own, (hF.b12 rfl).1.given 0, (hF.b12 rfl).1.fz⟩ fun e he => ?_, fun _ => ?_⟩
     · have hm := mem_listed he
       simp [go_sem, storedEv, h0, hfz] at hm
       exact hm
     rw [lin_zero]
     exact hS _ _ _ _ hF.op5
 have s0123 : ∀ t w co e11 e12, R9 m own Given Fz p e7 e8 e10 ci true true true false false co e11 e12 w → Goo Try.prog true own (MR 66 m.q.Wg own Given) (MD m.q.Wg own Given Fz) Stop (n + 2) (G ((base 16).at ⟨#[m.inV, v1, v2, v3, v4, v5, ptr m.q.Wg, ptr e7, ptr e8, v9, ptr e10, ptr e11, ptr e12, v13, v14, v15, v16, v17, v18, v19, v20, v21, v22, v23, v24, v25, v26, v27, m.fsV, .int .i64 m.q.nf, .int .i64 p, v31, v32, v33, .chan (some ci), .chan (some co), v36, v37, v38, v39, v40, v41, v42, v43, v44, v45, v46, v47, v48], []⟩ (.inRegion ops9 (lin ops9 2 t #[true, true, true, true, false, false]) :: k9)) m.cs) w := by
   intro t w co e11 e12 hF
   refine goo_lin (rs := [4]) (by first | rfl | kernel_rfl) (by simp) (fun i hi t => ?_) t
   simp only [List.mem_cons, List.not_mem_nil, or_false] at hi
   rcases hi with rfl
   · refine Goo.step (n := n + 1) rfl fun w₁ h₁ => ?_
     replace hF := hF.rely g h₁
     clear h₁
     refine goes_oper_k (o := { dst := none, op := .store 75 (.tmp 11) (.tmp 34), type := 0, pos := "stage.go:61", after := #[{ on := 2, ground := .data }, { on := 0, ground := .data }, { on := 0, ground := .phase }, { on := 1, ground := .textOnly .lateStoresUnsure }, { on := 2, ground := .phase }, { on := 3, ground := .phase }], guard := none }) rfl rfl (by decide) (fun K hK => ?_)
     obtain ⟨cs, hc⟩ := (hF.b11 rfl).1.typ
     obtain ⟨v₀, h0⟩ := (hF.b11 rfl).1.cell
     have hfz := frozen_of hc 0
     go_simp
     try (unfold stored; go_simp)
     refine hK _ _ ⟨gua_write (a := ⟨e11, 0, none⟩) rfl hc ⟨(hF.b11 rfl).1.own, (hF.b11 rfl).1.given 0, (hF.b11 rfl).1.fz⟩ fun e he => ?_, fun _ => ?_⟩
     · have hm := mem_listed he
       simp [go_sem, storedEv, h0, hfz] at hm
       exact hm
     exact s01234 _ _ _ _ _ hF.op4
 have s0234 : ∀ t w e11 e12, R9 m own Given Fz p e7 e8 e10 ci false true true true false 0 e11 e12 w → Goo Try.prog true own (MR 66 m.q.Wg own Given) (MD m.q.Wg own Given Fz) Stop (n + 2) (G ((base 16).at ⟨#[m.inV, v1, v2, v3, v4, v5, ptr m.q.Wg, ptr e7, ptr e8, v9, ptr e10, ptr e11, ptr e12, v13, v14, v15, v16, v17, v18, v19, v20, v21, v22, v23, v24, v25, v26, v27, m.fsV, .int .i64 m.q.nf, .int .i64 p, v31, v32, v33, .chan (some ci), v35, v36, v37, v38, v39, v40, v41, v42, v43, v44, v45, v46, v47, v48], []⟩ (.inRegion ops9 (lin ops9 2 t #[true, false, true, true, true, false]) :: k9)) m.cs) w := by
   intro t w e11 e12 hF
   refine goo_lin (rs := [1]) (by first | rfl | kernel_rfl) (by simp) (fun i hi t => ?_) t
   simp only [List.mem_cons, List.not_mem_nil, or_false] at hi
   rcases hi with rfl
   · refine Goo.step (n := n + 1) rfl fun w₁ h₁ => ?_
     replace hF := hF.rely g h₁
     clear h₁
     refine goes_oper_k (o := { dst := some 35, op := .makeChan 75 (.const (.int .i64 0)), type := 75, pos := "stage.go:61", after := #[], guard := none }) rfl rfl (by decide) (fun K hK => ?_)
     go_simp
     refine hK _ _ ⟨gua_but (S := fun _ => False) (fun _ h => h.elim) (by simp) (fun b hb _ => heap_alloc_old _ _ b hb) (fun _ _ h => h.elim) rfl rfl rfl (fun e he => ?_), fun hnew => ?_⟩
     · have hm := mem_listed he
       simp [go_sem] at hm
     exact s01234 _ _ _ _ _ (hF.op1 (hnew _ (Nat.le_refl _) (by simp)))
 have s012 : ∀ t w co e11, R9 m own Given Fz p e7 e8 e10 ci true true false false false co e11 0 w → Goo Try.prog true own (MR 66 m.q.Wg own Given) (MD m.q.Wg own Given Fz) Stop (n + 3) (G ((base 16).at ⟨#[m.inV, v1, v2, v3, v4, v5, ptr m.q.Wg, ptr e7, ptr e8, v9, ptr e10, ptr e11, v12, v13, v14, v15, v16, v17, v18, v19, v20, v21, v22, v23, v24, v25, v26, v27, m.fsV, .int .i64 m.q.nf, .int .i64 p, v31, v32, v33, .chan (some ci), .chan (some co), v36, v37, v38, v39, v40, v41, v42, v43, v44, v45, v46, v47, v48], []⟩ (.inRegion ops9 (lin ops9 3 t #[true, true, true, false, false, false]) :: k9)) m.cs) w := by
   intro t w co e11 hF
   refine goo_lin (rs := [3]) (by first | rfl | kernel_rfl) (by simp) (fun i hi t => ?_) t
   simp only [List.mem_cons, List.not_mem_nil, or_false] at hi
   rcases hi with rfl
   · refine Goo.step (n := n + 2) rfl fun w₁ h₁ => ?_
     replace hF := hF.rely g h₁
     clear h₁
     refine goes_oper_k (o := { dst := some 12, op := .alloc 75, type := 0, pos := "stage.go:61", after := #[], guard := none }) rfl rfl (by decide) (fun K hK => ?_)
     go_simp
     refine hK _ _ ⟨gua_but (S := fun _ => False) (fun _ h => h.elim) (by simp) (fun b hb _ => heap_alloc_old _ _ b hb) (fun _ _ h => h.elim) rfl rfl rfl (fun e he => ?_), fun hnew => ?_⟩
     · have hm := mem_listed he
       simp [go_sem] at hm
     exact s0123 _ _ _ _ _ (hF.op3 (hnew _ (Nat.le_refl _) (by simp)))
 have s013 : ∀ t w co e12, R9 m own Given Fz p e7 e8 e10 ci true false true false false co 0 e12 w → Goo Try.prog true own (MR 66 m.q.Wg own Given) (MD m.q.Wg own Given Fz) Stop (n + 3) (G ((base 16).at ⟨#[m.inV, v1, v2, v3, v4, v5, ptr m.q.Wg, ptr e7, ptr e8, v9, ptr e10, v11, ptr e12, v13, v14, v15, v16, v17, v18, v19, v20, v21, v22, v23, v24, v25, v26, v27, m.fsV, .int .i64 m.q.nf, .int .i64 p, v31, v32, v33, .chan (some ci), .chan (some co), v36, v37, v38, v39, v40, v41, v42, v43, v44, v45, v46, v47, v48], []⟩ (.inRegion ops9 (lin ops9 3 t #[true, true, false, true, false, false]) :: k9)) m.cs) w := by
   intro t w co e12 hF
   refine goo_lin (rs := [2]) (by first | rfl | kernel_rfl) (by simp) (fun i hi t => ?_) t
   simp only [List.mem_cons, List.not_mem_nil, or_false] at hi
   rcases hi with rfl
   · refine Goo.step (n := n + 2) rfl fun w₁ h₁ => ?_
     replace hF := hF.rely g h₁
     clear h₁
     refine goes_oper_k (o := { dst := some 11, op := .alloc 75, type := 0, pos := "stage.go:61", after := #[], guard := none }) rfl rfl (by decide) (fun K hK => ?_)
     go_simp
     refine hK _ _ ⟨gua_but (S := fun _ => False) (fun _ h => h.elim) (by simp) (fun b hb _ => heap_alloc_old _ _ b hb) (fun _ _ h => h.elim) rfl rfl rfl (fun e he => ?_), fun hnew => ?_⟩
     · have hm := mem_listed he
       simp [go_sem] at hm
     exact s0123 _ _ _ _ _ (hF.op2 (hnew _ (Nat.le_refl _) (by simp)))
 have s023 : ∀ t w e11 e12, R9 m own Given Fz p e7 e8 e10 ci false true true false false 0 e11 e12 w → Goo Try.prog true own (MR 66 m.q.Wg own Given) (MD m.q.Wg own Given Fz) Stop (n + 3) (G ((base 16).at ⟨#[m.inV, v1, v2, v3, v4, v5, ptr m.q.Wg, ptr e7, ptr e8, v9, ptr e10, ptr e11, ptr e12, v13, v14, v15, v16, v17, v18, v19, v20, v21, v22, v23, v24, v25, v26, v27, m.fsV, .int .i64 m.q.nf, .int .i64 p, v31, v32, v33, .chan (some ci), v35, v36, v37, v38, v39, v40, v41, v42, v43, v44, v45, v46, v47, v48], []⟩ (.inRegion ops9 (lin ops9 3 t #[true, false, true, true, false, false]) :: k9)) m.cs) w := by
   intro t w e11 e12 hF
   refine goo_lin (rs := [1, 4]) (by first | rfl | kernel_rfl) (by simp) (fun i hi t => ?_) t
   simp only [List.mem_cons, List.not_mem_nil, or_false] at hi
   rcases hi with rfl | rfl
   · refine Goo.step (n := n + 2) rfl fun w₁ h₁ => ?_
     replace hF := hF.rely g h₁
     clear h₁
     refine goes_oper_k (o := { dst := some 35, op := .makeChan 75 (.const (.int .i64 0)), type := 75, pos := "stage.go:61", after := #[], guard := none }) rfl rfl (by decide) (fun K hK => ?_)
     go_simp
     refine hK _ _ ⟨gua_but (S := fun _ => False) (fun _ h => h.elim) (by simp) (fun b hb _ => heap_alloc_old _ _ b hb) (fun _ _ h => h.elim) rfl rfl rfl (fun e he => ?_), fun hnew => ?_⟩
     · have hm := mem_listed he
       simp [go_sem] at hm
     exact s0123 _ _ _ _ _ (hF.op1 (hnew _ (Nat.le_refl _) (by simp)))
   · refine Goo.step (n := n + 2) rfl fun w₁ h₁ => ?_
     replace hF := hF.rely g h₁
     clear h₁
     refine goes_oper_k (o := { dst := none, op := .store 75 (.tmp 11) (.tmp 34), type := 0, pos := "stage.go:61", after := #[{ on := 2, ground := .data }, { on := 0, ground := .data }, { on := 0, ground := .phase }, { on := 1, ground := .textOnly .lateStoresUnsure }, { on := 2, ground := .phase }, { on := 3, ground := .phase }], guard := none }) rfl rfl (by decide) (fun K hK => ?_)
     obtain ⟨cs, hc⟩ := (hF.b11 rfl).1.typ
     obtain ⟨v₀, h0⟩ := (hF.b11 rfl).1.cell
     have hfz := frozen_of hc 0
     go_simp
     try (unfold stored; go_simp)
     refine hK _ _ ⟨gua_write (a := ⟨e11, 0, none⟩) rfl hc ⟨(hF.b11 rfl).1.own, (hF.b11 rfl).1.given 0, (hF.b11 rfl).1.fz⟩ fun e he => ?_, fun _ => ?_⟩
     · have hm := mem_listed he
       simp [go_sem, storedEv, h0, hfz] at hm
       exact hm
     exact s0234 _ _ _ _ hF.op4
 have s123 : ∀ t w co e11 e12, R9 m own Given Fz p e7 e8 e10 ci true true true false false co e11 e12 w → Goo Try.prog true own (MR 66 m.q.Wg own Given) (MD m.q.Wg own Given Fz) Stop (n + 3) (G ((base 16).at ⟨#[m.inV, v1, v2, v3, v4, v5, ptr m.q.Wg, ptr e7, ptr e8, v9, ptr e10, ptr e11, ptr e12, v13, v14, v15, v16, v17, v18, v19, v20, v21, v22, v23, v24, v25, v26, v27, m.fsV, .int .i64 m.q.nf, .int .i64 p, v31, v32, v33, v34, .chan (some co), v36, v37, v38, v39, v40, v41, v42, v43, v44, v45, v46, v47, v48], []⟩ (.inRegion ops9 (lin ops9 3 t #[false, true, true, true, false, false]) :: k9)) m.cs) w := by
   intro t w co e11 e12 hF
   refine goo_lin (rs := [0]) (by first | rfl | kernel_rfl) (by simp) (fun i hi t => ?_) t
   simp only [List.mem_cons, List.not_mem_nil, or_false] at hi
   rcases hi with rfl
   · refine Goo.step (n := n + 2) rfl fun w₁ h₁ => ?_
     replace hF := hF.rely g h₁
     clear h₁
     refine goes_oper_k (o := { dst := some 34, op := .load 75 (.tmp 8), type := 75, pos := "stage.go:61", after := #[], guard := none }) rfl rfl (by decide) (fun K hK => ?_)
     have h1 := hF.cw.c8
     go_simp
     refine hK _ _ ⟨gua_read fun e he => ?_, fun _ => ?_⟩
     · have hm := mem_listed he
       simp [go_sem, h1] at hm
       exact ⟨_, hm, cell_lt h1, .inr ⟨g.o8.1, g.o8.2 0⟩⟩
     exact s0123 _ _ _ _ _ hF
 have s01 : ∀ t w co, R9 m own Given Fz p e7 e8 e10 ci true false false false false co 0 0 w → Goo Try.prog true own (MR 66 m.q.Wg own Given) (MD m.q.Wg own Given Fz) Stop (n + 4) (G ((base 16).at ⟨#[m.inV, v1, v2, v3, v4, v5, ptr m.q.Wg, ptr e7, ptr e8, v9, ptr e10, v11, v12, v13, v14, v15, v16, v17, v18, v19, v20, v21, v22, v23, v24, v25, v26, v27, m.fsV, .int .i64 m.q.nf, .int .i64 p, v31, v32, v33, .chan (some ci), .chan (some co), v36, v37, v38, v39, v40, v41, v42, v43, v44, v45, v46, v47, v48], []⟩ (.inRegion ops9 (lin ops9 4 t #[true, true, false, false, false, false]) :: k9)) m.cs) w := by
   intro t w co hF
   refine goo_lin (rs := [2, 3]) (by first | rfl | kernel_rfl) (by simp) (fun i hi t => ?_) t
   simp only [List.mem_cons, List.not_mem_nil, or_false] at hi
   rcases hi with rfl | rfl
   · refine Goo.step (n := n + 3) rfl fun w₁ h₁ => ?_
     replace hF := hF.rely g h₁
     clear h₁
     refine goes_oper_k (o := { dst := some 11, op := .alloc 75, type := 0, pos := "stage.go:61", after := #[], guard := none }) rfl rfl (by decide) (fun K hK => ?_)
     go_simp
     refine hK _ _ ⟨gua_but (S := fun _ => False) (fun _ h => h.elim) (by simp) (fun b hb _ => heap_alloc_old _ _ b hb) (fun _ _ h => h.elim) rfl rfl rfl (fun e he => ?_), fun hnew => ?_⟩
     · have hm := mem_listed he
       simp [go_sem] at hm
     exact s012 _ _ _ _ (hF.op2 (hnew _ (Nat.le_refl _) (by simp)))
   · refine Goo.step (n := n + 3) rfl fun w₁ h₁ => ?_
     replace hF := hF.rely g h₁
     clear h₁
     refine goes_oper_k (o := { dst := some 12, op := .alloc 75, type := 0, pos := "stage.go:61", after := #[], guard := none }) rfl rfl (by decide) (fun K hK => ?_)
     go_simp
     refine hK _ _ ⟨gua_but (S := fun _ => False) (fun _ h => h.elim) (by simp) (fun b hb _ => heap_alloc_old _ _ b hb) (fun _ _ h => h.elim) rfl rfl rfl (fun e he => ?_), fun hnew => ?_⟩
     · have hm := mem_listed he
       simp [go_sem] at hm
     exact s013 _ _ _ _ (hF.op3 (hnew _ (Nat.le_refl _) (by simp)))
 have s02 : ∀ t w e11, R9 m own Given Fz p e7 e8 e10 ci false true false false false 0 e11 0 w → Goo Try.prog true own (MR 66 m.q.Wg own Given) (MD m.q.Wg own Given Fz) Stop (n + 4) (G ((base 16).at ⟨#[m.inV, v1, v2, v3, v4, v5, ptr m.q.Wg, ptr e7, ptr e8, v9, ptr e10, ptr e11, v12, v13, v14, v15, v16, v17, v18, v19, v20, v21, v22, v23, v24, v25, v26, v27, m.fsV, .int .i64 m.q.nf, .int .i64 p, v31, v32, v33, .chan (some ci), v35, v36, v37, v38, v39, v40, v41, v42, v43, v44, v45, v46, v47, v48], []⟩ (.inRegion ops9 (lin ops9 4 t #[true, false, true, false, false, false]) :: k9)) m.cs) w := by
   intro t w e11 hF
   refine goo_lin (rs := [1, 3]) (by first | rfl | kernel_rfl) (by simp) (fun i hi t => ?_) t
   simp only [List.mem_cons, List.not_mem_nil, or_false] at hi
   rcases hi with rfl | rfl
   · refine Goo.step (n := n + 3) rfl fun w₁ h₁ => ?_
     replace hF := hF.rely g h₁
     clear h₁
     refine goes_oper_k (o := { dst := some 35, op := .makeChan 75 (.const (.int .i64 0)), type := 75, pos := "stage.go:61", after := #[], guard := none }) rfl rfl (by decide) (fun K hK => ?_)
     go_simp
     refine hK _ _ ⟨gua_but (S := fun _ => False) (fun _ h => h.elim) (by simp) (fun b hb _ => heap_alloc_old _ _ b hb) (fun _ _ h => h.elim) rfl rfl rfl (fun e he => ?_), fun hnew => ?_⟩
     · have hm := mem_listed he
       simp [go_sem] at hm
     exact s012 _ _ _ _ (hF.op1 (hnew _ (Nat.le_refl _) (by simp)))
   · refine Goo.step (n := n + 3) rfl fun w₁ h₁ => ?_
     replace hF := hF.rely g h₁
     clear h₁
     refine goes_oper_k (o := { dst := some 12, op := .alloc 75, type := 0, pos := "stage.go:61", after := #[], guard := none }) rfl rfl (by decide) (fun K hK => ?_)
     go_simp
     refine hK _ _ ⟨gua_but (S := fun _ => False) (fun _ h => h.elim) (by simp) (fun b hb _ => heap_alloc_old _ _ b hb) (fun _ _ h => h.elim) rfl rfl rfl (fun e he => ?_), fun hnew => ?_⟩
     · have hm := mem_listed he
       simp [go_sem] at hm
     exact s023 _ _ _ _ (hF.op3 (hnew _ (Nat.le_refl _) (by simp)))
 have s03 : ∀ t w e12, R9 m own Given Fz p e7 e8 e10 ci false false true false false 0 0 e12 w → Goo Try.prog true own (MR 66 m.q.Wg own Given) (MD m.q.Wg own Given Fz) Stop (n + 4) (G ((base 16).at ⟨#[m.inV, v1, v2, v3, v4, v5, ptr m.q.Wg, ptr e7, ptr e8, v9, ptr e10, v11, ptr e12, v13, v14, v15, v16, v17, v18, v19, v20, v21, v22, v23, v24, v25, v26, v27, m.fsV, .int .i64 m.q.nf, .int .i64 p, v31, v32, v33, .chan (some ci), v35, v36, v37, v38, v39, v40, v41, v42, v43, v44, v45, v46, v47, v48], []⟩ (.inRegion ops9 (lin ops9 4 t #[true, false, false, true, false, false]) :: k9)) m.cs) w := by
   intro t w e12 hF
   refine goo_lin (rs := [1, 2]) (by first | rfl | kernel_rfl) (by simp) (fun i hi t => ?_) t
   simp only [List.mem_cons, List.not_mem_nil, or_false] at hi
   rcases hi with rfl | rfl
   · refine Goo.step (n := n + 3) rfl fun w₁ h₁ => ?_
     replace hF := hF.rely g h₁
     clear h₁
     refine goes_oper_k (o := { dst := some 35, op := .makeChan 75 (.const (.int .i64 0)), type := 75, pos := "stage.go:61", after := #[], guard := none }) rfl rfl (by decide) (fun K hK => ?_)
     go_simp
     refine hK _ _ ⟨gua_but (S := fun _ => False) (fun _ h => h.elim) (by simp) (fun b hb _ => heap_alloc_old _ _ b hb) (fun _ _ h => h.elim) rfl rfl rfl (fun e he => ?_), fun hnew => ?_⟩
     · have hm := mem_listed he
       simp [go_sem] at hm
     exact s013 _ _ _ _ (hF.op1 (hnew _ (Nat.le_refl _) (by simp)))
   · refine Goo.step (n := n + 3) rfl fun w₁ h₁ => ?_
     replace hF := hF.rely g h₁
     clear h₁
     refine goes_oper_k (o := { dst := some 11, op := .alloc 75, type := 0, pos := "stage.go:61", after := #[], guard := none }) rfl rfl (by decide) (fun K hK => ?_)
     go_simp
     refine hK _ _ ⟨gua_but (S := fun _ => False) (fun _ h => h.elim) (by simp) (fun b hb _ => heap_alloc_old _ _ b hb) (fun _ _ h => h.elim) rfl rfl rfl (fun e he => ?_), fun hnew => ?_⟩
     · have hm := mem_listed he
       simp [go_sem] at hm
     exact s023 _ _ _ _ (hF.op2 (hnew _ (Nat.le_refl _) (by simp)))
 have s12 : ∀ t w co e11, R9 m own Given Fz p e7 e8 e10 ci true true false false false co e11 0 w → Goo Try.prog true own (MR 66 m.q.Wg own Given) (MD m.q.Wg own Given Fz) Stop (n + 4) (G ((base 16).at ⟨#[m.inV, v1, v2, v3, v4, v5, ptr m.q.Wg, ptr e7, ptr e8, v9, ptr e10, ptr e11, v12, v13, v14, v15, v16, v17, v18, v19, v20, v21, v22, v23, v24, v25, v26, v27, m.fsV, .int .i64 m.q.nf, .int .i64 p, v31, v32, v33, v34, .chan (some co), v36, v37, v38, v39, v40, v41, v42, v43, v44, v45, v46, v47, v48], []⟩ (.inRegion ops9 (lin ops9 4 t #[false, true, true, false, false, false]) :: k9)) m.cs) w := by
   intro t w co e11 hF
   refine goo_lin (rs := [0, 3]) (by first | rfl | kernel_rfl) (by simp) (fun i hi t => ?_) t
   simp only [List.mem_cons, List.not_mem_nil, or_false] at hi
   rcases hi with rfl | rfl
   · refine Goo.step (n := n + 3) rfl fun w₁ h₁ => ?_
     replace hF := hF.rely g h₁
     clear h₁
     refine goes_oper_k (o := { dst := some 34, op := .load 75 (.tmp 8), type := 75, pos := "stage.go:61", after := #[], guard := none }) rfl rfl (by decide) (fun K hK => ?_)
     have h1 := hF.cw.c8
     go_simp
     refine hK _ _ ⟨gua_read fun e he => ?_, fun _ => ?_⟩
     · have hm := mem_listed he
       simp [go_sem, h1] at hm
       exact ⟨_, hm, cell_lt h1, .inr ⟨g.o8.1, g.o8.2 0⟩⟩
     exact s012 _ _ _ _ hF
   · refine Goo.step (n := n + 3) rfl fun w₁ h₁ => ?_
     replace hF := hF.rely g h₁
     clear h₁
     refine goes_oper_k (o := { dst := some 12, op := .alloc 75, type := 0, pos := "stage.go:61", after := #[], guard := none }) rfl rfl (by decide) (fun K hK => ?_)
     go_simp
     refine hK _ _ ⟨gua_but (S := fun _ => False) (fun _ h => h.elim) (by simp) (fun b hb _ => heap_alloc_old _ _ b hb) (fun _ _ h => h.elim) rfl rfl rfl (fun e he => ?_), fun hnew => ?_⟩
     · have hm := mem_listed he
       simp [go_sem] at hm
     exact s123 _ _ _ _ _ (hF.op3 (hnew _ (Nat.le_refl _) (by simp)))
 have s13 : ∀ t w co e12, R9 m own Given Fz p e7 e8 e10 ci true false true false false co 0 e12 w → Goo Try.prog true own (MR 66 m.q.Wg own Given) (MD m.q.Wg own Given Fz) Stop (n + 4) (G ((base 16).at ⟨#[m.inV, v1, v2, v3, v4, v5, ptr m.q.Wg, ptr e7, ptr e8, v9, ptr e10, v11, ptr e12, v13, v14, v15, v16, v17, v18, v19, v20, v21, v22, v23, v24, v25, v26, v27, m.fsV, .int .i64 m.q.nf, .int .i64 p, v31, v32, v33, v34, .chan (some co), v36, v37, v38, v39, v40, v41, v42, v43, v44, v45, v46, v47, v48], []⟩ (.inRegion ops9 (lin ops9 4 t #[false, true, false, true, false, false]) :: k9)) m.cs) w := by
   intro t w co e12 hF
   refine goo_lin (rs := [0, 2]) (by first | rfl | kernel_rfl) (by simp) (fun i hi t => ?_) t
   simp only [List.mem_cons, List.not_mem_nil, or_false] at hi
   rcases hi with rfl | rfl
   · refine Goo.step (n := n + 3) rfl fun w₁ h₁ => ?_
     replace hF := hF.rely g h₁
     clear h₁
     refine goes_oper_k (o := { dst := some 34, op := .load 75 (.tmp 8), type := 75, pos := "stage.go:61", after := #[], guard := none }) rfl rfl (by decide) (fun K hK => ?_)
     have h1 := hF.cw.c8
     go_simp
     refine hK _ _ ⟨gua_read fun e he => ?_, fun _ => ?_⟩
     · have hm := mem_listed he
       simp [go_sem, h1] at hm
       exact ⟨_, hm, cell_lt h1, .inr ⟨g.o8.1, g.o8.2 0⟩⟩
     exact s013 _ _ _ _ hF
   · refine Goo.step (n := n + 3) rfl fun w₁ h₁ => ?_
     replace hF := hF.rely g h₁
     clear h₁
     refine goes_oper_k (o := { dst := some 11, op := .alloc 75, type := 0, pos := "stage.go:61", after := #[], guard := none }) rfl rfl (by decide) (fun K hK => ?_)
     go_simp
     refine hK _ _ ⟨gua_but (S := fun _ => False) (fun _ h => h.elim) (by simp) (fun b hb _ => heap_alloc_old _ _ b hb) (fun _ _ h => h.elim) rfl rfl rfl (fun e he => ?_), fun hnew => ?_⟩
     · have hm := mem_listed he
       simp [go_sem] at hm
     exact s123 _ _ _ _ _ (hF.op2 (hnew _ (Nat.le_refl _) (by simp)))
 have s23 : ∀ t w e11 e12, R9 m own Given Fz p e7 e8 e10 ci false true true false false 0 e11 e12 w → Goo Try.prog true own (MR 66 m.q.Wg own Given) (MD m.q.Wg own Given Fz) Stop (n + 4) (G ((base 16).at ⟨#[m.inV, v1, v2, v3, v4, v5, ptr m.q.Wg, ptr e7, ptr e8, v9, ptr e10, ptr e11, ptr e12, v13, v14, v15, v16, v17, v18, v19, v20, v21, v22, v23, v24, v25, v26, v27, m.fsV, .int .i64 m.q.nf, .int .i64 p, v31, v32, v33, v34, v35, v36, v37, v38, v39, v40, v41, v42, v43, v44, v45, v46, v47, v48], []⟩ (.inRegion ops9 (lin ops9 4 t #[false, false, true, true, false, false]) :: k9)) m.cs) w := by
   intro t w e11 e12 hF
   refine goo_lin (rs := [0, 1]) (by first | rfl | kernel_rfl) (by simp) (fun i hi t => ?_) t
   simp only [List.mem_cons, List.not_mem_nil, or_false] at hi
   rcases hi with rfl | rfl
   · refine Goo.step (n := n + 3) rfl fun w₁ h₁ => ?_
     replace hF := hF.rely g h₁
     clear h₁
     refine goes_oper_k (o := { dst := some 34, op := .load 75 (.tmp 8), type := 75, pos := "stage.go:61", after := #[], guard := none }) rfl rfl (by decide) (fun K hK => ?_)
     have h1 := hF.cw.c8
     go_simp
     refine hK _ _ ⟨gua_read fun e he => ?_, fun _ => ?_⟩
     · have hm := mem_listed he
       simp [go_sem, h1] at hm
       exact ⟨_, hm, cell_lt h1, .inr ⟨g.o8.1, g.o8.2 0⟩⟩
     exact s023 _ _ _ _ hF
   · refine Goo.step (n := n + 3) rfl fun w₁ h₁ => ?_
     replace hF := hF.rely g h₁
     clear h₁
     refine goes_oper_k (o := { dst := some 35, op := .makeChan 75 (.const (.int .i64 0)), type := 75, pos := "stage.go:61", after := #[], guard := none }) rfl rfl (by decide) (fun K hK => ?_)
     go_simp
     refine hK _ _ ⟨gua_but (S := fun _ => False) (fun _ h => h.elim) (by simp) (fun b hb _ => heap_alloc_old _ _ b hb) (fun _ _ h => h.elim) rfl rfl rfl (fun e he => ?_), fun hnew => ?_⟩
     · have hm := mem_listed he
       simp [go_sem] at hm
     exact s123 _ _ _ _ _ (hF.op1 (hnew _ (Nat.le_refl _) (by simp)))
 have s0 : ∀ t w, R9 m own Given Fz p e7 e8 e10 ci false false false false false 0 0 0 w → Goo Try.prog true own (MR 66 m.q.Wg own Given) (MD m.q.Wg own Given Fz) Stop (n + 5) (G ((base 16).at ⟨#[m.inV, v1, v2, v3, v4, v5, ptr m.q.Wg, ptr e7, ptr e8, v9, ptr e10, v11, v12, v13, v14, v15, v16, v17, v18, v19, v20, v21, v22, v23, v24, v25, v26, v27, m.fsV, .int .i64 m.q.nf, .int .i64 p, v31, v32, v33, .chan (some ci), v35, v36, v37, v38, v39, v40, v41, v42, v43, v44, v45, v46, v47, v48], []⟩ (.inRegion ops9 (lin ops9 5 t #[true, false, false, false, false, false]) :: k9)) m.cs) w := by
   intro t w hF
   refine goo_lin (rs := [1, 2, 3]) (by first | rfl | kernel_rfl) (by simp) (fun i hi t => ?_) t
   simp only [List.mem_cons, List.not_mem_nil, or_false] at hi
   rcases hi with rfl | rfl | rfl
   · refine Goo.step (n := n + 4) rfl fun w₁ h₁ => ?_
     replace hF := hF.rely g h₁
     clear h₁
     refine goes_oper_k (o := { dst := some 35, op := .makeChan 75 (.const (.int .i64 0)), type := 75, pos := "stage.go:61", after := #[], guard := none }) rfl rfl (by decide) (fun K hK => ?_)
     go_simp
     refine hK _ _ ⟨gua_but (S := fun _ => False) (fun _ h => h.elim) (by simp) (fun b hb _ => heap_alloc_old _ _ b hb) (fun _ _ h => h.elim) rfl rfl rfl (fun e he => ?_), fun hnew => ?_⟩
     · have hm := mem_listed he
       simp [go_sem] at hm
     exact s01 _ _ _ (hF.op1 (hnew _ (Nat.le_refl _) (by simp)))
   · refine Goo.step (n := n + 4) rfl fun w₁ h₁ => ?_
     replace hF := hF.rely g h₁
     clear h₁
     refine goes_oper_k (o := { dst := some 11, op := .alloc 75, type := 0, pos := "stage.go:61", after := #[], guard := none }) rfl rfl (by decide) (fun K hK => ?_)
     go_simp
     refine hK _ _ ⟨gua_but (S := fun _ => False) (fun _ h => h.elim) (by simp) (fun b hb _ => heap_alloc_old _ _ b hb) (fun _ _ h => h.elim) rfl rfl rfl (fun e he => ?_), fun hnew => ?_⟩
     · have hm := mem_listed he
       simp [go_sem] at hm
     exact s02 _ _ _ (hF.op2 (hnew _ (Nat.le_refl _) (by simp)))
   · refine Goo.step (n := n + 4) rfl fun w₁ h₁ => ?_
     replace hF := hF.rely g h₁
     clear h₁
     refine goes_oper_k (o := { dst := some 12, op := .alloc 75, type := 0, pos := "stage.go:61", after := #[], guard := none }) rfl rfl (by decide) (fun K hK => ?_)
     go_simp
     refine hK _ _ ⟨gua_but (S := fun _ => False) (fun _ h => h.elim) (by simp) (fun b hb _ => heap_alloc_old _ _ b hb) (fun _ _ h => h.elim) rfl rfl rfl (fun e he => ?_), fun hnew => ?_⟩
     · have hm := mem_listed he
       simp [go_sem] at hm
     exact s03 _ _ _ (hF.op3 (hnew _ (Nat.le_refl _) (by simp)))
 have s1 : ∀ t w co, R9 m own Given Fz p e7 e8 e10 ci true false false false false co 0 0 w → Goo Try.prog true own (MR 66 m.q.Wg own Given) (MD m.q.Wg own Given Fz) Stop (n + 5) (G ((base 16).at ⟨#[m.inV, v1, v2, v3, v4, v5, ptr m.q.Wg, ptr e7, ptr e8, v9, ptr e10, v11, v12, v13, v14, v15, v16, v17, v18, v19, v20, v21, v22, v23, v24, v25, v26, v27, m.fsV, .int .i64 m.q.nf, .int .i64 p, v31, v32, v33, v34, .chan (some co), v36, v37, v38, v39, v40, v41, v42, v43, v44, v45, v46, v47, v48], []⟩ (.inRegion ops9 (lin ops9 5 t #[false, true, false, false, false, false]) :: k9)) m.cs) w := by
   intro t w co hF
   refine goo_lin (rs := [0, 2, 3]) (by first | rfl | kernel_rfl) (by simp) (fun i hi t => ?_) t
   simp only [List.mem_cons, List.not_mem_nil, or_false] at hi
   rcases hi with rfl | rfl | rfl
   · refine Goo.step (n := n + 4) rfl fun w₁ h₁ => ?_
     replace hF := hF.rely g h₁
     clear h₁
     refine goes_oper_k (o := { dst := some 34, op := .load 75 (.tmp 8), type := 75, pos := "stage.go:61", after := #[], guard := none }) rfl rfl (by decide) (fun K hK => ?_)
     have h1 := hF.cw.c8
     go_simp
     refine hK _ _ ⟨gua_read fun e he => ?_, fun _ => ?_⟩
     · have hm := mem_listed he
       simp [go_sem, h1] at hm
       exact ⟨_, hm, cell_lt h1, .inr ⟨g.o8.1, g.o8.2 0⟩⟩
     exact s01 _ _ _ hF
   · refine Goo.step (n := n + 4) rfl fun w₁ h₁ => ?_
     replace hF := hF.rely g h₁
     clear h₁
     refine goes_oper_k (o := { dst := some 11, op := .alloc 75, type := 0, pos := "stage.go:61", after := #[], guard := none }) rfl rfl (by decide) (fun K hK => ?_)
     go_simp
     refine hK _ _ ⟨gua_but (S := fun _ => False) (fun _ h => h.elim) (by simp) (fun b hb _ => heap_alloc_old _ _ b hb) (fun _ _ h => h.elim) rfl rfl rfl (fun e he => ?_), fun hnew => ?_⟩
     · have hm := mem_listed he
       simp [go_sem] at hm
     exact s12 _ _ _ _ (hF.op2 (hnew _ (Nat.le_refl _) (by simp)))
   · refine Goo.step (n := n + 4) rfl fun w₁ h₁ => ?_
     replace hF := hF.rely g h₁
     clear h₁
     refine goes_oper_k (o := { dst := some 12, op := .alloc 75, type := 0, pos := "stage.go:61", after := #[], guard := none }) rfl rfl (by decide) (fun K hK => ?_)
     go_simp
     refine hK _ _ ⟨gua_but (S := fun _ => False) (fun _ h => h.elim) (by simp) (fun b hb _ => heap_alloc_old _ _ b hb) (fun _ _ h => h.elim) rfl rfl rfl (fun e he => ?_), fun hnew => ?_⟩
     · have hm := mem_listed he
       simp [go_sem] at hm
     exact s13 _ _ _ _ (hF.op3 (hnew _ (Nat.le_refl _) (by simp)))
 have s2 : ∀ t w e11, R9 m own Given Fz p e7 e8 e10 ci false true false false false 0 e11 0 w → Goo Try.prog true own (MR 66 m.q.Wg own Given) (MD m.q.Wg own Given Fz) Stop (n + 5) (G ((base 16).at ⟨#[m.inV, v1, v2, v3, v4, v5, ptr m.q.Wg, ptr e7, ptr e8, v9, ptr e10, ptr e11, v12, v13, v14, v15, v16, v17, v18, v19, v20, v21, v22, v23, v24, v25, v26, v27, m.fsV, .int .i64 m.q.nf, .int .i64 p, v31, v32, v33, v34, v35, v36, v37, v38, v39, v40, v41, v42, v43, v44, v45, v46, v47, v48], []⟩ (.inRegion ops9 (lin ops9 5 t #[false, false, true, false, false, false]) :: k9)) m.cs) w := by
   intro t w e11 hF
   refine goo_lin (rs := [0, 1, 3]) (by first | rfl | kernel_rfl) (by simp) (fun i hi t => ?_) t
   simp only [List.mem_cons, List.not_mem_nil, or_false] at hi
   rcases hi with rfl | rfl | rfl
   · refine Goo.step (n := n + 4) rfl fun w₁ h₁ => ?_
     replace hF := hF.rely g h₁
     clear h₁
     refine goes_oper_k (o := { dst := some 34, op := .load 75 (.tmp 8), type := 75, pos := "stage.go:61", after := #[], guard := none }) rfl rfl (by decide) (fun K hK => ?_)
     have h1 := hF.cw.c8
     go_simp
     refine hK _ _ ⟨gua_read fun e he => ?_, fun _ => ?_⟩
     · have hm := mem_listed he
       simp [go_sem, h1] at hm
       exact ⟨_, hm, cell_lt h1, .inr ⟨g.o8.1, g.o8.2 0⟩⟩
     exact s02 _ _ _ hF
   · refine Goo.step (n := n + 4) rfl fun w₁ h₁ => ?_
     replace hF := hF.rely g h₁
     clear h₁
     refine goes_oper_k (o := { dst := some 35, op := .makeChan 75 (.const (.int .i64 0)), type := 75, pos := "stage.go:61", after := #[], guard := none }) rfl rfl (by decide) (fun K hK => ?_)
     go_simp
     refine hK _ _ ⟨gua_but (S := fun _ => False) (fun _ h => h.elim) (by simp) (fun b hb _ => heap_alloc_old _ _ b hb) (fun _ _ h => h.elim) rfl rfl rfl (fun e he => ?_), fun hnew => ?_⟩
     · have hm := mem_listed he
       simp [go_sem] at hm
     exact s12 _ _ _ _ (hF.op1 (hnew _ (Nat.le_refl _) (by simp)))
   · refine Goo.step (n := n + 4) rfl fun w₁ h₁ => ?_
     replace hF := hF.rely g h₁
     clear h₁
     refine goes_oper_k (o := { dst := some 12, op := .alloc 75, type := 0, pos := "stage.go:61", after := #[], guard := none }) rfl rfl (by decide) (fun K hK => ?_)
     go_simp
     refine hK _ _ ⟨gua_but (S := fun _ => False) (fun _ h => h.elim) (by simp) (fun b hb _ => heap_alloc_old _ _ b hb) (fun _ _ h => h.elim) rfl rfl rfl (fun e he => ?_), fun hnew => ?_⟩
     · have hm := mem_listed he
       simp [go_sem] at hm
     exact s23 _ _ _ _ (hF.op3 (hnew _ (Nat.le_refl _) (by simp)))
 have s3 : ∀ t w e12, R9 m own Given Fz p e7 e8 e10 ci false false true false false 0 0 e12 w → Goo Try.prog true own (MR 66 m.q.Wg own Given) (MD m.q.Wg own Given Fz) Stop (n + 5) (G ((base 16).at ⟨#[m.inV, v1, v2, v3, v4, v5, ptr m.q.Wg, ptr e7, ptr e8, v9, ptr e10, v11, ptr e12, v13, v14, v15, v16, v17, v18, v19, v20, v21, v22, v23, v24, v25, v26, v27, m.fsV, .int .i64 m.q.nf, .int .i64 p, v31, v32, v33, v34, v35, v36, v37, v38, v39, v40, v41, v42, v43, v44, v45, v46, v47, v48], []⟩ (.inRegion ops9 (lin ops9 5 t #[false, false, false, true, false, false]) :: k9)) m.cs) w := by
   intro t w e12 hF
   refine goo_lin (rs := [0, 1, 2]) (by first | rfl | kernel_rfl) (by simp) (fun i hi t => ?_) t
   simp only [List.mem_cons, List.not_mem_nil, or_false] at hi
   rcases hi with rfl | rfl | rfl
   · refine Goo.step (n := n + 4) rfl fun w₁ h₁ => ?_
     replace hF := hF.rely g h₁
     clear h₁
     refine goes_oper_k (o := { dst := some 34, op := .load 75 (.tmp 8), type := 75, pos := "stage.go:61", after := #[], guard := none }) rfl rfl (by decide) (fun K hK => ?_)
     have h1 := hF.cw.c8
     go_simp
     refine hK _ _ ⟨gua_read fun e he => ?_, fun _ => ?_⟩
     · have hm := mem_listed he
       simp [go_sem, h1] at hm
       exact ⟨_, hm, cell_lt h1, .inr ⟨g.o8.1, g.o8.2 0⟩⟩
     exact s03 _ _ _ hF
   · refine Goo.step (n := n + 4) rfl fun w₁ h₁ => ?_
     replace hF := hF.rely g h₁
     clear h₁
     refine goes_oper_k (o := { dst := some 35, op := .makeChan 75 (.const (.int .i64 0)), type := 75, pos := "stage.go:61", after := #[], guard := none }) rfl rfl (by decide) (fun K hK => ?_)
     go_simp
     refine hK _ _ ⟨gua_but (S := fun _ => False) (fun _ h => h.elim) (by simp) (fun b hb _ => heap_alloc_old _ _ b hb) (fun _ _ h => h.elim) rfl rfl rfl (fun e he => ?_), fun hnew => ?_⟩
     · have hm := mem_listed he
       simp [go_sem] at hm
     exact s13 _ _ _ _ (hF.op1 (hnew _ (Nat.le_refl _) (by simp)))
   · refine Goo.step (n := n + 4) rfl fun w₁ h₁ => ?_
     replace hF := hF.rely g h₁
     clear h₁
     refine goes_oper_k (o := { dst := some 11, op := .alloc 75, type := 0, pos := "stage.go:61", after := #[], guard := none }) rfl rfl (by decide) (fun K hK => ?_)
     go_simp
     refine hK _ _ ⟨gua_but (S := fun _ => False) (fun _ h => h.elim) (by simp) (fun b hb _ => heap_alloc_old _ _ b hb) (fun _ _ h => h.elim) rfl rfl rfl (fun e he => ?_), fun hnew => ?_⟩
     · have hm := mem_listed he
       simp [go_sem] at hm
     exact s23 _ _ _ _ (hF.op2 (hnew _ (Nat.le_refl _) (by simp)))
 have s : ∀ t w, R9 m own Given Fz p e7 e8 e10 ci false false false false false 0 0 0 w → Goo Try.prog true own (MR 66 m.q.Wg own Given) (MD m.q.Wg own Given Fz) Stop (n + 6) (G ((base 16).at ⟨#[m.inV, v1, v2, v3, v4, v5, ptr m.q.Wg, ptr e7, ptr e8, v9, ptr e10, v11, v12, v13, v14, v15, v16, v17, v18, v19, v20, v21, v22, v23, v24, v25, v26, v27, m.fsV, .int .i64 m.q.nf, .int .i64 p, v31, v32, v33, v34, v35, v36, v37, v38, v39, v40, v41, v42, v43, v44, v45, v46, v47, v48], []⟩ (.inRegion ops9 (lin ops9 6 t #[false, false, false, false, false, false]) :: k9)) m.cs) w := by
   intro t w hF
   refine goo_lin (rs := [0, 1, 2, 3]) (by first | rfl | kernel_rfl) (by simp) (fun i hi t => ?_) t
   simp only [List.mem_cons, List.not_mem_nil, or_false] at hi
   rcases hi with rfl | rfl | rfl | rfl
   · refine Goo.step (n := n + 5) rfl fun w₁ h₁ => ?_
     replace hF := hF.rely g h₁
     clear h₁
     refine goes_oper_k (o := { dst := some 34, op := .load 75 (.tmp 8), type := 75, pos := "stage.go:61", after := #[], guard := none }) rfl rfl (by decide) (fun K hK => ?_)
     have h1 := hF.cw.c8
     go_simp
     refine hK _ _ ⟨gua_read fun e he => ?_, fun _ => ?_⟩
     · have hm := mem_listed he
       simp [go_sem, h1] at hm
       exact ⟨_, hm, cell_lt h1, .inr ⟨g.o8.1, g.o8.2 0⟩⟩
     exact s0 _ _ hF
   · refine Goo.step (n := n + 5) rfl fun w₁ h₁ => ?_
     replace hF := hF.rely g h₁
     clear h₁
     refine goes_oper_k (o := { dst := some 35, op := .makeChan 75 (.const (.int .i64 0)), type := 75, pos := "stage.go:61", after := #[], guard := none }) rfl rfl (by decide) (fun K hK => ?_)
     go_simp
     refine hK _ _ ⟨gua_but (S := fun _ => False) (fun _ h => h.elim) (by simp) (fun b hb _ => heap_alloc_old _ _ b hb) (fun _ _ h => h.elim) rfl rfl rfl (fun e he => ?_), fun hnew => ?_⟩
     · have hm := mem_listed he
       simp [go_sem] at hm
     exact s1 _ _ _ (hF.op1 (hnew _ (Nat.le_refl _) (by simp)))
   · refine Goo.step (n := n + 5) rfl fun w₁ h₁ => ?_
     replace hF := hF.rely g h₁
     clear h₁
     refine goes_oper_k (o := { dst := some 11, op := .alloc 75, type := 0, pos := "stage.go:61", after := #[], guard := none }) rfl rfl (by decide) (fun K hK => ?_)
     go_simp
     refine hK _ _ ⟨gua_but (S := fun _ => False) (fun _ h => h.elim) (by simp) (fun b hb _ => heap_alloc_old _ _ b hb) (fun _ _ h => h.elim) rfl rfl rfl (fun e he => ?_), fun hnew => ?_⟩
     · have hm := mem_listed he
       simp [go_sem] at hm
     exact s2 _ _ _ (hF.op2 (hnew _ (Nat.le_refl _) (by simp)))
   · refine Goo.step (n := n + 5) rfl fun w₁ h₁ => ?_
     replace hF := hF.rely g h₁
     clear h₁
     refine goes_oper_k (o := { dst := some 12, op := .alloc 75, type := 0, pos := "stage.go:61", after := #[], guard := none }) rfl rfl (by decide) (fun K hK => ?_)
     go_simp
     refine hK _ _ ⟨gua_but (S := fun _ => False) (fun _ h => h.elim) (by simp) (fun b hb _ => heap_alloc_old _ _ b hb) (fun _ _ h => h.elim) rfl rfl rfl (fun e he => ?_), fun hnew => ?_⟩
     · have hm := mem_listed he
       simp [go_sem] at hm
     exact s3 _ _ _ (hF.op3 (hnew _ (Nat.le_refl _) (by simp)))
 exact s t w hF
end
end Go.Proofs.Ytblpmdolclalnaa
